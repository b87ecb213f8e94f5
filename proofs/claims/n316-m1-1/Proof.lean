import JvmDerived
import JvmDerived.Pilot.@@N@@Statement
import JvmDerived.Pilot.@@N@@Code
set_option linter.unusedVariables false
set_option linter.unusedSimpArgs false
namespace Jvm.Pilot.@@N@@
open Jvm Jvm.ClassFile Sem Op Lib Jvm.Free Jvm.Stand Jvm.LawKit Jvm.RoadKit Bundle Jvm.Pilot.@@N@@.Jvm.D
def own_Fin (p : Program) (e : Env) (below : List Frame) (P : State → Outcome → Prop) (a : State) : Prop := ∃ t o, Steps p.tables e below a t ∧ t.status = .running ∧ Ended t below o ∧ P t o
theorem own_fin {p : Program} {e : Env} {below : List Frame} {P : State → Outcome → Prop} {a b : State} (k : ∀ t, Steps p.tables e below b t → Steps p.tables e below a t) (h : own_Fin p e below P b) : own_Fin p e below P a := by
  obtain ⟨t, o, s, r⟩ := h
  exact ⟨t, o, k t s, r⟩
theorem own_StaKeep {Z : State} {h : Heap} {C n d : String} {v : Value} {n0 : Nat} (O : Old Z n0 h) (F : Sta Z Z.heap C n d v) : Sta Z h C n d v := F.ext O.2

theorem own_ord {args : Array Value} {s : State} {t : Term} {x : Addr} {C n d : String} {k : Int32} (ev : t.eval args s none [] s = some (.ref x)) (h : (Jvm.Cond.eq (Jvm.Term.field t C n d) (Jvm.Term.int k)).value args s none s [] = some true) : s.fieldOf? x C n d = some (.int k) := by
  have e := fld_at (C := C) (n := n) (dd := d) ev
  have e2 : (Jvm.Term.int k).eval args s none [] s = some (.int k) := Term.int_eval k
  cases hf : s.fieldOf? x C n d with
  | none => simp [Cond.value, e, hf] at h
  | some w => cases w <;> simp [Cond.value, e, e2, hf] at h ⊢; exact h
theorem own_and3 (k : Int32) : (k &&& (3 : Int32)) = 0 ∨ (k &&& (3 : Int32)) = 1 ∨ (k &&& (3 : Int32)) = 2 ∨ (k &&& (3 : Int32)) = 3 := by
  have h := c_mask k (3 : Int32) 2 (by decide) (by decide)
  simp only [← Int32.toInt_inj]
  have e0 : (0 : Int32).toInt = 0 := rfl
  have e1 : (1 : Int32).toInt = 1 := rfl
  have e2 : (2 : Int32).toInt = 2 := rfl
  have e3 : (3 : Int32).toInt = 3 := rfl
  rw [e0, e1, e2, e3, h]; omega
theorem own_d1_0 : decode method_2_code 0 = .ok (.iload_n 0, 1) := by decide +kernel
theorem own_d1_1 : decode method_2_code 1 = .ok (.ifCond .ne 7, 3) := by decide +kernel
theorem own_d1_4 : decode method_2_code 4 = .ok (.getstatic 7, 3) := by decide +kernel
theorem own_d1_7 : decode method_2_code 7 = .ok (.areturn, 1) := by decide +kernel
theorem own_pn_com_example_waldrapp_waldrapp_IntentStateSettledPinLaw : plainName "com/example/waldrapp/waldrapp/IntentStateSettledPinLaw" = true := by first | (simp [plainName, overriddenIn]; done) | decide +kernel
theorem own_ef_rm_pick0 (mM : MethodId) (x0 : Int32) : entryFrame mM #[(.int x0)] 1 = mkF mM 0 #[.val (.int x0)] [] := by first | (simp [entryFrame, mkF, argsToLocals, Value.category]; done) | rfl
def Q_rm_pick0 (Z : State) (a : Addr) (h0 : Heap) (n0 : Nat) (vV : Option Value) (hH : Heap) (lA : List Loc) : Prop := vV = some (.ref a) ∧ Fr n0 lA ∧ (hH = h0)
set_option maxRecDepth 65536 in
set_option maxHeartbeats 40000000 in
theorem rm_pick0 (lL : Launch) (Z : State) (a0 : Array Value) (hw : ∀ d ∈ tables_1, d.before a0 Z = true) (ws : List Jvm.Cond) (a : Addr) (h0 : Heap) (n0 : Nat) (Z0 : n0 ≤ h0.size) (Sx : Sta Z h0 "com/example/waldrapp/waldrapp/IntentState" "PENDING" "Lcom/example/waldrapp/waldrapp/IntentState;" (.ref a)) :
    MetFree lL (⟨"com/example/waldrapp/waldrapp/IntentStateSettledPinLaw", "pick", "(I)Lcom/example/waldrapp/waldrapp/IntentState;"⟩ : MethodName) (head1 (Jvm.Cond.code (⟨"com/example/waldrapp/waldrapp/IntentStateSettledPinLaw", "pick", "(I)Lcom/example/waldrapp/waldrapp/IntentState;"⟩ : MethodName) method_2_code 1 (some (.object "com/example/waldrapp/waldrapp/IntentState")) :: ws) ({ frames := 0, cells := 0, slots := 0, locals := 0 } : Room)) (fun aA uU => aA = #[(.int (0 : Int32))] ∧ Z.Warmed39 uU.vm ∧ uU.heap = h0) (fun _ _ _ _ _ => True) (fun _ uU oO uU' => ∃ vV lA, oO = .returned vV ∧ Q_rm_pick0 Z a h0 n0 vV uU'.heap lA ∧ FrameEnd uU oO uU' lA ({ frames := 0, cells := 0, slots := 0, locals := 0 } : Room).cells ({ frames := 0, cells := 0, slots := 0, locals := 0 } : Room).slots) := by
  refine MetFree.of_bodySF (plainFor_of_name own_pn_com_example_waldrapp_waldrapp_IntentStateSettledPinLaw) hisR ?_
  intro pP eE sS mM args below meth cC s₁ Bd hml0 hP hK
  obtain ⟨rfl, hZ, hh⟩ := hP
  have hx := Bd.exec
  have hby := Bd.bytes
  have hml : cC.maxLocals = 1 := hml0
  have hown : sS.vm.findClass "com/example/waldrapp/waldrapp/IntentStateSettledPinLaw" = some mM.cls := findClass_of_methodNamed Bd.named
  have hnm := (name_of_methodNamed Bd.named Bd.method).1
  have X0 : Stand pP lL eE ({ frames := 0, cells := 0, slots := 0, locals := 0 } : Room) sS mM #[(.int (0 : Int32))] below meth cC s₁ [] 0 0 := Stand.of_body Bd
  have e0 : s₁.heap = h0 := by rw [← hh, Bd.state]; rfl
  have N0 := Fr.nil n0
  have K0 := Keep.refl h0 ([] : List Addr)
  show own_Fin pP eE below (fun tT oO => ∃ vV lA, oO = .returned vV ∧ Q_rm_pick0 Z a h0 n0 vV tT.heap lA ∧ FrameEnd sS oO tT lA ({ frames := 0, cells := 0, slots := 0, locals := 0 } : Room).cells ({ frames := 0, cells := 0, slots := 0, locals := 0 } : Room).slots) (s₁.setTop (entryFrame mM #[(.int (0 : Int32))] 1))
  refine own_fin (b := s₁.setTop (mkF mM 0 #[.val (.int (0 : Int32))] [])) (fun tT kK => castTop (own_ef_rm_pick0 mM (0 : Int32)) kK) ?_
  refine own_fin (b := s₁.setTop (mkF mM 4 #[.val (.int (0 : Int32))] [])) (fun tT kK => ?_) ?_
  · show Steps pP.tables eE below (s₁.setTop (mkF mM 0 #[.val (.int (0 : Int32))] [])) tT
    refine XS.iloadN X0.here hx rfl (Jvm.hb hby own_d1_0) rfl ?_
    show Steps pP.tables eE below (s₁.setTop (mkF mM 1 #[.val (.int (0 : Int32))] [(.int (0 : Int32))])) tT
    refine XS.ifNo X0.here hx rfl (Jvm.hb hby own_d1_1) rfl ((if0 _ _).trans (teq ((by decide) : (0 : Int32) = (0 : Int32))).2) ?_
    show Steps pP.tables eE below (s₁.setTop (mkF mM 4 #[.val (.int (0 : Int32))] [])) tT
    exact kK
  obtain ⟨T1_, X1_, e1_, st1_⟩ := getS2 X0 hx hZ hown (host := "") (Or.inl (hw _ (List.mem_of_getElem? (i := 4) rfl))) Via.refl e0 Sx (g := (mkF mM 4 #[.val (.int (0 : Int32))] [])) rfl (Jvm.hb hby own_d1_4)
  refine own_fin st1_ ?_
  show own_Fin pP eE below _ (T1_.setTop (mkF mM 7 #[.val (.int (0 : Int32))] [(.ref a)]))
  obtain ⟨fs, hr, hrun, hended, hW, hsame⟩ := X1_.leave (v := some (.ref a)) (fun h => by rw [Bd.returns] at h; cases h)
  refine ⟨_, _, ?_, hrun, hended, _, _, rfl, ?_, ⟨_, rfl⟩, hW, hsame.mono (by decide) (by decide)⟩
  · show Steps pP.tables eE below (T1_.setTop (mkF mM 7 #[.val (.int (0 : Int32))] [(.ref a)])) _
    exact retOut X1_ hx Bd.returns rfl (Or.inr (Or.inr (Or.inr (Or.inr ⟨rfl, rfl, rfl⟩)))) (Jvm.hb hby own_d1_7) hr
  · show Q_rm_pick0 Z a h0 n0 _ T1_.heap _
    rw [e1_]
    exact ⟨rfl, N0, rfl⟩
theorem own_d3_0 : decode method_3_code 0 = .ok (.iload_n 0, 1) := by decide +kernel
theorem own_d3_1 : decode method_3_code 1 = .ok (.ifCond .ne 5, 3) := by decide +kernel
theorem own_d3_4 : decode method_3_code 4 = .ok (.iconst 0, 1) := by decide +kernel
theorem own_d3_5 : decode method_3_code 5 = .ok (.ireturn, 1) := by decide +kernel
theorem own_ef_rm_exp0 (mM : MethodId) (x0 : Int32) : entryFrame mM #[(.int x0)] 1 = mkF mM 0 #[.val (.int x0)] [] := by first | (simp [entryFrame, mkF, argsToLocals, Value.category]; done) | rfl
def Q_rm_exp0 (Z : State)  (h0 : Heap) (n0 : Nat) (vV : Option Value) (hH : Heap) (lA : List Loc) : Prop := vV = some (.int (0 : Int32)) ∧ Fr n0 lA ∧ (hH = h0)
set_option maxRecDepth 65536 in
set_option maxHeartbeats 40000000 in
theorem rm_exp0 (lL : Launch) (Z : State) (a0 : Array Value) (hw : ∀ d ∈ tables_1, d.before a0 Z = true) (ws : List Jvm.Cond)  (h0 : Heap) (n0 : Nat) (Z0 : n0 ≤ h0.size) :
    MetFree lL (⟨"com/example/waldrapp/waldrapp/IntentStateSettledPinLaw", "expected", "(I)Z"⟩ : MethodName) (head1 (Jvm.Cond.code (⟨"com/example/waldrapp/waldrapp/IntentStateSettledPinLaw", "expected", "(I)Z"⟩ : MethodName) method_3_code 1 (some .boolean) :: ws) ({ frames := 0, cells := 0, slots := 0, locals := 0 } : Room)) (fun aA uU => aA = #[(.int (0 : Int32))] ∧ Z.Warmed39 uU.vm ∧ uU.heap = h0) (fun _ _ _ _ _ => True) (fun _ uU oO uU' => ∃ vV lA, oO = .returned vV ∧ Q_rm_exp0 Z  h0 n0 vV uU'.heap lA ∧ FrameEnd uU oO uU' lA ({ frames := 0, cells := 0, slots := 0, locals := 0 } : Room).cells ({ frames := 0, cells := 0, slots := 0, locals := 0 } : Room).slots) := by
  refine MetFree.of_bodySF (plainFor_of_name own_pn_com_example_waldrapp_waldrapp_IntentStateSettledPinLaw) hisR ?_
  intro pP eE sS mM args below meth cC s₁ Bd hml0 hP hK
  obtain ⟨rfl, hZ, hh⟩ := hP
  have hx := Bd.exec
  have hby := Bd.bytes
  have hml : cC.maxLocals = 1 := hml0
  have hown : sS.vm.findClass "com/example/waldrapp/waldrapp/IntentStateSettledPinLaw" = some mM.cls := findClass_of_methodNamed Bd.named
  have hnm := (name_of_methodNamed Bd.named Bd.method).1
  have X0 : Stand pP lL eE ({ frames := 0, cells := 0, slots := 0, locals := 0 } : Room) sS mM #[(.int (0 : Int32))] below meth cC s₁ [] 0 0 := Stand.of_body Bd
  have e0 : s₁.heap = h0 := by rw [← hh, Bd.state]; rfl
  have N0 := Fr.nil n0
  have K0 := Keep.refl h0 ([] : List Addr)
  show own_Fin pP eE below (fun tT oO => ∃ vV lA, oO = .returned vV ∧ Q_rm_exp0 Z  h0 n0 vV tT.heap lA ∧ FrameEnd sS oO tT lA ({ frames := 0, cells := 0, slots := 0, locals := 0 } : Room).cells ({ frames := 0, cells := 0, slots := 0, locals := 0 } : Room).slots) (s₁.setTop (entryFrame mM #[(.int (0 : Int32))] 1))
  refine own_fin (b := s₁.setTop (mkF mM 0 #[.val (.int (0 : Int32))] [])) (fun tT kK => castTop (own_ef_rm_exp0 mM (0 : Int32)) kK) ?_
  refine own_fin (b := s₁.setTop (mkF mM 5 #[.val (.int (0 : Int32))] [(.int (0 : Int32))])) (fun tT kK => ?_) ?_
  · show Steps pP.tables eE below (s₁.setTop (mkF mM 0 #[.val (.int (0 : Int32))] [])) tT
    refine XS.iloadN X0.here hx rfl (Jvm.hb hby own_d3_0) rfl ?_
    show Steps pP.tables eE below (s₁.setTop (mkF mM 1 #[.val (.int (0 : Int32))] [(.int (0 : Int32))])) tT
    refine XS.ifNo X0.here hx rfl (Jvm.hb hby own_d3_1) rfl ((if0 _ _).trans (teq ((by decide) : (0 : Int32) = (0 : Int32))).2) ?_
    show Steps pP.tables eE below (s₁.setTop (mkF mM 4 #[.val (.int (0 : Int32))] [])) tT
    refine XS.iconst X0.here hx rfl (Jvm.hb hby own_d3_4) ?_
    show Steps pP.tables eE below (s₁.setTop (mkF mM 5 #[.val (.int (0 : Int32))] [(.int (0 : Int32))])) tT
    exact kK
  obtain ⟨fs, hr, hrun, hended, hW, hsame⟩ := X0.leave (v := some (.int (0 : Int32))) (fun h => by rw [Bd.returns] at h; cases h)
  refine ⟨_, _, ?_, hrun, hended, _, _, rfl, ?_, ⟨_, rfl⟩, hW, hsame.mono (by decide) (by decide)⟩
  · show Steps pP.tables eE below (s₁.setTop (mkF mM 5 #[.val (.int (0 : Int32))] [(.int (0 : Int32))])) _
    exact retN X0 hx (t := .boolean) Bd.returns (by simp) (Jvm.hb hby own_d3_5) hr
  · show Q_rm_exp0 Z  h0 n0 _ s₁.heap _
    rw [e0]
    exact ⟨rfl, N0, rfl⟩
theorem own_d1_8 : decode method_2_code 8 = .ok (.iload_n 0, 1) := by decide +kernel
theorem own_d1_9 : decode method_2_code 9 = .ok (.iconst 1, 1) := by decide +kernel
theorem own_d1_10 : decode method_2_code 10 = .ok (.if_icmp .ne 7, 3) := by decide +kernel
theorem own_d1_13 : decode method_2_code 13 = .ok (.getstatic 13, 3) := by decide +kernel
theorem own_d1_16 : decode method_2_code 16 = .ok (.areturn, 1) := by decide +kernel
theorem own_ef_rm_pick1 (mM : MethodId) (x0 : Int32) : entryFrame mM #[(.int x0)] 1 = mkF mM 0 #[.val (.int x0)] [] := by first | (simp [entryFrame, mkF, argsToLocals, Value.category]; done) | rfl
def Q_rm_pick1 (Z : State) (a : Addr) (h0 : Heap) (n0 : Nat) (vV : Option Value) (hH : Heap) (lA : List Loc) : Prop := vV = some (.ref a) ∧ Fr n0 lA ∧ (hH = h0)
set_option maxRecDepth 65536 in
set_option maxHeartbeats 40000000 in
theorem rm_pick1 (lL : Launch) (Z : State) (a0 : Array Value) (hw : ∀ d ∈ tables_1, d.before a0 Z = true) (ws : List Jvm.Cond) (a : Addr) (h0 : Heap) (n0 : Nat) (Z0 : n0 ≤ h0.size) (Sx : Sta Z h0 "com/example/waldrapp/waldrapp/IntentState" "DELEGATED" "Lcom/example/waldrapp/waldrapp/IntentState;" (.ref a)) :
    MetFree lL (⟨"com/example/waldrapp/waldrapp/IntentStateSettledPinLaw", "pick", "(I)Lcom/example/waldrapp/waldrapp/IntentState;"⟩ : MethodName) (head1 (Jvm.Cond.code (⟨"com/example/waldrapp/waldrapp/IntentStateSettledPinLaw", "pick", "(I)Lcom/example/waldrapp/waldrapp/IntentState;"⟩ : MethodName) method_2_code 1 (some (.object "com/example/waldrapp/waldrapp/IntentState")) :: ws) ({ frames := 0, cells := 0, slots := 0, locals := 0 } : Room)) (fun aA uU => aA = #[(.int (1 : Int32))] ∧ Z.Warmed39 uU.vm ∧ uU.heap = h0) (fun _ _ _ _ _ => True) (fun _ uU oO uU' => ∃ vV lA, oO = .returned vV ∧ Q_rm_pick1 Z a h0 n0 vV uU'.heap lA ∧ FrameEnd uU oO uU' lA ({ frames := 0, cells := 0, slots := 0, locals := 0 } : Room).cells ({ frames := 0, cells := 0, slots := 0, locals := 0 } : Room).slots) := by
  refine MetFree.of_bodySF (plainFor_of_name own_pn_com_example_waldrapp_waldrapp_IntentStateSettledPinLaw) hisR ?_
  intro pP eE sS mM args below meth cC s₁ Bd hml0 hP hK
  obtain ⟨rfl, hZ, hh⟩ := hP
  have hx := Bd.exec
  have hby := Bd.bytes
  have hml : cC.maxLocals = 1 := hml0
  have hown : sS.vm.findClass "com/example/waldrapp/waldrapp/IntentStateSettledPinLaw" = some mM.cls := findClass_of_methodNamed Bd.named
  have hnm := (name_of_methodNamed Bd.named Bd.method).1
  have X0 : Stand pP lL eE ({ frames := 0, cells := 0, slots := 0, locals := 0 } : Room) sS mM #[(.int (1 : Int32))] below meth cC s₁ [] 0 0 := Stand.of_body Bd
  have e0 : s₁.heap = h0 := by rw [← hh, Bd.state]; rfl
  have N0 := Fr.nil n0
  have K0 := Keep.refl h0 ([] : List Addr)
  show own_Fin pP eE below (fun tT oO => ∃ vV lA, oO = .returned vV ∧ Q_rm_pick1 Z a h0 n0 vV tT.heap lA ∧ FrameEnd sS oO tT lA ({ frames := 0, cells := 0, slots := 0, locals := 0 } : Room).cells ({ frames := 0, cells := 0, slots := 0, locals := 0 } : Room).slots) (s₁.setTop (entryFrame mM #[(.int (1 : Int32))] 1))
  refine own_fin (b := s₁.setTop (mkF mM 0 #[.val (.int (1 : Int32))] [])) (fun tT kK => castTop (own_ef_rm_pick1 mM (1 : Int32)) kK) ?_
  refine own_fin (b := s₁.setTop (mkF mM 13 #[.val (.int (1 : Int32))] [])) (fun tT kK => ?_) ?_
  · show Steps pP.tables eE below (s₁.setTop (mkF mM 0 #[.val (.int (1 : Int32))] [])) tT
    refine XS.iloadN X0.here hx rfl (Jvm.hb hby own_d1_0) rfl ?_
    show Steps pP.tables eE below (s₁.setTop (mkF mM 1 #[.val (.int (1 : Int32))] [(.int (1 : Int32))])) tT
    refine XS.ifYes X0.here hx rfl (pc0 := 1) (pc' := 8) rfl (Jvm.hb hby own_d1_1) rfl ((if0 _ _).trans (feq ((by decide) : ¬ ((1 : Int32) = (0 : Int32)))).2) (by decide) (by decide) ?_
    show Steps pP.tables eE below (s₁.setTop (mkF mM 8 #[.val (.int (1 : Int32))] [])) tT
    refine XS.iloadN X0.here hx rfl (Jvm.hb hby own_d1_8) rfl ?_
    show Steps pP.tables eE below (s₁.setTop (mkF mM 9 #[.val (.int (1 : Int32))] [(.int (1 : Int32))])) tT
    refine XS.iconst X0.here hx rfl (Jvm.hb hby own_d1_9) ?_
    show Steps pP.tables eE below (s₁.setTop (mkF mM 10 #[.val (.int (1 : Int32))] [(.int (1 : Int32)), (.int (1 : Int32))])) tT
    refine XS.icmpNo X0.here hx rfl (Jvm.hb hby own_d1_10) rfl (teq ((by decide) : (1 : Int32) = (1 : Int32))).2 ?_
    show Steps pP.tables eE below (s₁.setTop (mkF mM 13 #[.val (.int (1 : Int32))] [])) tT
    exact kK
  obtain ⟨T1_, X1_, e1_, st1_⟩ := getS2 X0 hx hZ hown (host := "") (Or.inl (hw _ (List.mem_of_getElem? (i := 21) rfl))) Via.refl e0 Sx (g := (mkF mM 13 #[.val (.int (1 : Int32))] [])) rfl (Jvm.hb hby own_d1_13)
  refine own_fin st1_ ?_
  show own_Fin pP eE below _ (T1_.setTop (mkF mM 16 #[.val (.int (1 : Int32))] [(.ref a)]))
  obtain ⟨fs, hr, hrun, hended, hW, hsame⟩ := X1_.leave (v := some (.ref a)) (fun h => by rw [Bd.returns] at h; cases h)
  refine ⟨_, _, ?_, hrun, hended, _, _, rfl, ?_, ⟨_, rfl⟩, hW, hsame.mono (by decide) (by decide)⟩
  · show Steps pP.tables eE below (T1_.setTop (mkF mM 16 #[.val (.int (1 : Int32))] [(.ref a)])) _
    exact retOut X1_ hx Bd.returns rfl (Or.inr (Or.inr (Or.inr (Or.inr ⟨rfl, rfl, rfl⟩)))) (Jvm.hb hby own_d1_16) hr
  · show Q_rm_pick1 Z a h0 n0 _ T1_.heap _
    rw [e1_]
    exact ⟨rfl, N0, rfl⟩
theorem own_d3_6 : decode method_3_code 6 = .ok (.iload_n 0, 1) := by decide +kernel
theorem own_d3_7 : decode method_3_code 7 = .ok (.iconst 1, 1) := by decide +kernel
theorem own_d3_8 : decode method_3_code 8 = .ok (.if_icmp .ne 5, 3) := by decide +kernel
theorem own_d3_11 : decode method_3_code 11 = .ok (.iconst 0, 1) := by decide +kernel
theorem own_d3_12 : decode method_3_code 12 = .ok (.ireturn, 1) := by decide +kernel
theorem own_ef_rm_exp1 (mM : MethodId) (x0 : Int32) : entryFrame mM #[(.int x0)] 1 = mkF mM 0 #[.val (.int x0)] [] := by first | (simp [entryFrame, mkF, argsToLocals, Value.category]; done) | rfl
def Q_rm_exp1 (Z : State)  (h0 : Heap) (n0 : Nat) (vV : Option Value) (hH : Heap) (lA : List Loc) : Prop := vV = some (.int (0 : Int32)) ∧ Fr n0 lA ∧ (hH = h0)
set_option maxRecDepth 65536 in
set_option maxHeartbeats 40000000 in
theorem rm_exp1 (lL : Launch) (Z : State) (a0 : Array Value) (hw : ∀ d ∈ tables_1, d.before a0 Z = true) (ws : List Jvm.Cond)  (h0 : Heap) (n0 : Nat) (Z0 : n0 ≤ h0.size) :
    MetFree lL (⟨"com/example/waldrapp/waldrapp/IntentStateSettledPinLaw", "expected", "(I)Z"⟩ : MethodName) (head1 (Jvm.Cond.code (⟨"com/example/waldrapp/waldrapp/IntentStateSettledPinLaw", "expected", "(I)Z"⟩ : MethodName) method_3_code 1 (some .boolean) :: ws) ({ frames := 0, cells := 0, slots := 0, locals := 0 } : Room)) (fun aA uU => aA = #[(.int (1 : Int32))] ∧ Z.Warmed39 uU.vm ∧ uU.heap = h0) (fun _ _ _ _ _ => True) (fun _ uU oO uU' => ∃ vV lA, oO = .returned vV ∧ Q_rm_exp1 Z  h0 n0 vV uU'.heap lA ∧ FrameEnd uU oO uU' lA ({ frames := 0, cells := 0, slots := 0, locals := 0 } : Room).cells ({ frames := 0, cells := 0, slots := 0, locals := 0 } : Room).slots) := by
  refine MetFree.of_bodySF (plainFor_of_name own_pn_com_example_waldrapp_waldrapp_IntentStateSettledPinLaw) hisR ?_
  intro pP eE sS mM args below meth cC s₁ Bd hml0 hP hK
  obtain ⟨rfl, hZ, hh⟩ := hP
  have hx := Bd.exec
  have hby := Bd.bytes
  have hml : cC.maxLocals = 1 := hml0
  have hown : sS.vm.findClass "com/example/waldrapp/waldrapp/IntentStateSettledPinLaw" = some mM.cls := findClass_of_methodNamed Bd.named
  have hnm := (name_of_methodNamed Bd.named Bd.method).1
  have X0 : Stand pP lL eE ({ frames := 0, cells := 0, slots := 0, locals := 0 } : Room) sS mM #[(.int (1 : Int32))] below meth cC s₁ [] 0 0 := Stand.of_body Bd
  have e0 : s₁.heap = h0 := by rw [← hh, Bd.state]; rfl
  have N0 := Fr.nil n0
  have K0 := Keep.refl h0 ([] : List Addr)
  show own_Fin pP eE below (fun tT oO => ∃ vV lA, oO = .returned vV ∧ Q_rm_exp1 Z  h0 n0 vV tT.heap lA ∧ FrameEnd sS oO tT lA ({ frames := 0, cells := 0, slots := 0, locals := 0 } : Room).cells ({ frames := 0, cells := 0, slots := 0, locals := 0 } : Room).slots) (s₁.setTop (entryFrame mM #[(.int (1 : Int32))] 1))
  refine own_fin (b := s₁.setTop (mkF mM 0 #[.val (.int (1 : Int32))] [])) (fun tT kK => castTop (own_ef_rm_exp1 mM (1 : Int32)) kK) ?_
  refine own_fin (b := s₁.setTop (mkF mM 12 #[.val (.int (1 : Int32))] [(.int (0 : Int32))])) (fun tT kK => ?_) ?_
  · show Steps pP.tables eE below (s₁.setTop (mkF mM 0 #[.val (.int (1 : Int32))] [])) tT
    refine XS.iloadN X0.here hx rfl (Jvm.hb hby own_d3_0) rfl ?_
    show Steps pP.tables eE below (s₁.setTop (mkF mM 1 #[.val (.int (1 : Int32))] [(.int (1 : Int32))])) tT
    refine XS.ifYes X0.here hx rfl (pc0 := 1) (pc' := 6) rfl (Jvm.hb hby own_d3_1) rfl ((if0 _ _).trans (feq ((by decide) : ¬ ((1 : Int32) = (0 : Int32)))).2) (by decide) (by decide) ?_
    show Steps pP.tables eE below (s₁.setTop (mkF mM 6 #[.val (.int (1 : Int32))] [])) tT
    refine XS.iloadN X0.here hx rfl (Jvm.hb hby own_d3_6) rfl ?_
    show Steps pP.tables eE below (s₁.setTop (mkF mM 7 #[.val (.int (1 : Int32))] [(.int (1 : Int32))])) tT
    refine XS.iconst X0.here hx rfl (Jvm.hb hby own_d3_7) ?_
    show Steps pP.tables eE below (s₁.setTop (mkF mM 8 #[.val (.int (1 : Int32))] [(.int (1 : Int32)), (.int (1 : Int32))])) tT
    refine XS.icmpNo X0.here hx rfl (Jvm.hb hby own_d3_8) rfl (teq ((by decide) : (1 : Int32) = (1 : Int32))).2 ?_
    show Steps pP.tables eE below (s₁.setTop (mkF mM 11 #[.val (.int (1 : Int32))] [])) tT
    refine XS.iconst X0.here hx rfl (Jvm.hb hby own_d3_11) ?_
    show Steps pP.tables eE below (s₁.setTop (mkF mM 12 #[.val (.int (1 : Int32))] [(.int (0 : Int32))])) tT
    exact kK
  obtain ⟨fs, hr, hrun, hended, hW, hsame⟩ := X0.leave (v := some (.int (0 : Int32))) (fun h => by rw [Bd.returns] at h; cases h)
  refine ⟨_, _, ?_, hrun, hended, _, _, rfl, ?_, ⟨_, rfl⟩, hW, hsame.mono (by decide) (by decide)⟩
  · show Steps pP.tables eE below (s₁.setTop (mkF mM 12 #[.val (.int (1 : Int32))] [(.int (0 : Int32))])) _
    exact retN X0 hx (t := .boolean) Bd.returns (by simp) (Jvm.hb hby own_d3_12) hr
  · show Q_rm_exp1 Z  h0 n0 _ s₁.heap _
    rw [e0]
    exact ⟨rfl, N0, rfl⟩
theorem own_d1_17 : decode method_2_code 17 = .ok (.iload_n 0, 1) := by decide +kernel
theorem own_d1_18 : decode method_2_code 18 = .ok (.iconst 2, 1) := by decide +kernel
theorem own_d1_19 : decode method_2_code 19 = .ok (.if_icmp .ne 7, 3) := by decide +kernel
theorem own_d1_22 : decode method_2_code 22 = .ok (.getstatic 16, 3) := by decide +kernel
theorem own_d1_25 : decode method_2_code 25 = .ok (.areturn, 1) := by decide +kernel
theorem own_ef_rm_pick2 (mM : MethodId) (x0 : Int32) : entryFrame mM #[(.int x0)] 1 = mkF mM 0 #[.val (.int x0)] [] := by first | (simp [entryFrame, mkF, argsToLocals, Value.category]; done) | rfl
def Q_rm_pick2 (Z : State) (a : Addr) (h0 : Heap) (n0 : Nat) (vV : Option Value) (hH : Heap) (lA : List Loc) : Prop := vV = some (.ref a) ∧ Fr n0 lA ∧ (hH = h0)
set_option maxRecDepth 65536 in
set_option maxHeartbeats 40000000 in
theorem rm_pick2 (lL : Launch) (Z : State) (a0 : Array Value) (hw : ∀ d ∈ tables_1, d.before a0 Z = true) (ws : List Jvm.Cond) (a : Addr) (h0 : Heap) (n0 : Nat) (Z0 : n0 ≤ h0.size) (Sx : Sta Z h0 "com/example/waldrapp/waldrapp/IntentState" "APPLIED" "Lcom/example/waldrapp/waldrapp/IntentState;" (.ref a)) :
    MetFree lL (⟨"com/example/waldrapp/waldrapp/IntentStateSettledPinLaw", "pick", "(I)Lcom/example/waldrapp/waldrapp/IntentState;"⟩ : MethodName) (head1 (Jvm.Cond.code (⟨"com/example/waldrapp/waldrapp/IntentStateSettledPinLaw", "pick", "(I)Lcom/example/waldrapp/waldrapp/IntentState;"⟩ : MethodName) method_2_code 1 (some (.object "com/example/waldrapp/waldrapp/IntentState")) :: ws) ({ frames := 0, cells := 0, slots := 0, locals := 0 } : Room)) (fun aA uU => aA = #[(.int (2 : Int32))] ∧ Z.Warmed39 uU.vm ∧ uU.heap = h0) (fun _ _ _ _ _ => True) (fun _ uU oO uU' => ∃ vV lA, oO = .returned vV ∧ Q_rm_pick2 Z a h0 n0 vV uU'.heap lA ∧ FrameEnd uU oO uU' lA ({ frames := 0, cells := 0, slots := 0, locals := 0 } : Room).cells ({ frames := 0, cells := 0, slots := 0, locals := 0 } : Room).slots) := by
  refine MetFree.of_bodySF (plainFor_of_name own_pn_com_example_waldrapp_waldrapp_IntentStateSettledPinLaw) hisR ?_
  intro pP eE sS mM args below meth cC s₁ Bd hml0 hP hK
  obtain ⟨rfl, hZ, hh⟩ := hP
  have hx := Bd.exec
  have hby := Bd.bytes
  have hml : cC.maxLocals = 1 := hml0
  have hown : sS.vm.findClass "com/example/waldrapp/waldrapp/IntentStateSettledPinLaw" = some mM.cls := findClass_of_methodNamed Bd.named
  have hnm := (name_of_methodNamed Bd.named Bd.method).1
  have X0 : Stand pP lL eE ({ frames := 0, cells := 0, slots := 0, locals := 0 } : Room) sS mM #[(.int (2 : Int32))] below meth cC s₁ [] 0 0 := Stand.of_body Bd
  have e0 : s₁.heap = h0 := by rw [← hh, Bd.state]; rfl
  have N0 := Fr.nil n0
  have K0 := Keep.refl h0 ([] : List Addr)
  show own_Fin pP eE below (fun tT oO => ∃ vV lA, oO = .returned vV ∧ Q_rm_pick2 Z a h0 n0 vV tT.heap lA ∧ FrameEnd sS oO tT lA ({ frames := 0, cells := 0, slots := 0, locals := 0 } : Room).cells ({ frames := 0, cells := 0, slots := 0, locals := 0 } : Room).slots) (s₁.setTop (entryFrame mM #[(.int (2 : Int32))] 1))
  refine own_fin (b := s₁.setTop (mkF mM 0 #[.val (.int (2 : Int32))] [])) (fun tT kK => castTop (own_ef_rm_pick2 mM (2 : Int32)) kK) ?_
  refine own_fin (b := s₁.setTop (mkF mM 22 #[.val (.int (2 : Int32))] [])) (fun tT kK => ?_) ?_
  · show Steps pP.tables eE below (s₁.setTop (mkF mM 0 #[.val (.int (2 : Int32))] [])) tT
    refine XS.iloadN X0.here hx rfl (Jvm.hb hby own_d1_0) rfl ?_
    show Steps pP.tables eE below (s₁.setTop (mkF mM 1 #[.val (.int (2 : Int32))] [(.int (2 : Int32))])) tT
    refine XS.ifYes X0.here hx rfl (pc0 := 1) (pc' := 8) rfl (Jvm.hb hby own_d1_1) rfl ((if0 _ _).trans (feq ((by decide) : ¬ ((2 : Int32) = (0 : Int32)))).2) (by decide) (by decide) ?_
    show Steps pP.tables eE below (s₁.setTop (mkF mM 8 #[.val (.int (2 : Int32))] [])) tT
    refine XS.iloadN X0.here hx rfl (Jvm.hb hby own_d1_8) rfl ?_
    show Steps pP.tables eE below (s₁.setTop (mkF mM 9 #[.val (.int (2 : Int32))] [(.int (2 : Int32))])) tT
    refine XS.iconst X0.here hx rfl (Jvm.hb hby own_d1_9) ?_
    show Steps pP.tables eE below (s₁.setTop (mkF mM 10 #[.val (.int (2 : Int32))] [(.int (1 : Int32)), (.int (2 : Int32))])) tT
    refine XS.icmpYes X0.here hx rfl (pc0 := 10) (pc' := 17) rfl (Jvm.hb hby own_d1_10) rfl (feq ((by decide) : ¬ ((2 : Int32) = (1 : Int32)))).2 (by decide) (by decide) ?_
    show Steps pP.tables eE below (s₁.setTop (mkF mM 17 #[.val (.int (2 : Int32))] [])) tT
    refine XS.iloadN X0.here hx rfl (Jvm.hb hby own_d1_17) rfl ?_
    show Steps pP.tables eE below (s₁.setTop (mkF mM 18 #[.val (.int (2 : Int32))] [(.int (2 : Int32))])) tT
    refine XS.iconst X0.here hx rfl (Jvm.hb hby own_d1_18) ?_
    show Steps pP.tables eE below (s₁.setTop (mkF mM 19 #[.val (.int (2 : Int32))] [(.int (2 : Int32)), (.int (2 : Int32))])) tT
    refine XS.icmpNo X0.here hx rfl (Jvm.hb hby own_d1_19) rfl (teq ((by decide) : (2 : Int32) = (2 : Int32))).2 ?_
    show Steps pP.tables eE below (s₁.setTop (mkF mM 22 #[.val (.int (2 : Int32))] [])) tT
    exact kK
  obtain ⟨T1_, X1_, e1_, st1_⟩ := getS2 X0 hx hZ hown (host := "") (Or.inl (hw _ (List.mem_of_getElem? (i := 20) rfl))) Via.refl e0 Sx (g := (mkF mM 22 #[.val (.int (2 : Int32))] [])) rfl (Jvm.hb hby own_d1_22)
  refine own_fin st1_ ?_
  show own_Fin pP eE below _ (T1_.setTop (mkF mM 25 #[.val (.int (2 : Int32))] [(.ref a)]))
  obtain ⟨fs, hr, hrun, hended, hW, hsame⟩ := X1_.leave (v := some (.ref a)) (fun h => by rw [Bd.returns] at h; cases h)
  refine ⟨_, _, ?_, hrun, hended, _, _, rfl, ?_, ⟨_, rfl⟩, hW, hsame.mono (by decide) (by decide)⟩
  · show Steps pP.tables eE below (T1_.setTop (mkF mM 25 #[.val (.int (2 : Int32))] [(.ref a)])) _
    exact retOut X1_ hx Bd.returns rfl (Or.inr (Or.inr (Or.inr (Or.inr ⟨rfl, rfl, rfl⟩)))) (Jvm.hb hby own_d1_25) hr
  · show Q_rm_pick2 Z a h0 n0 _ T1_.heap _
    rw [e1_]
    exact ⟨rfl, N0, rfl⟩
theorem own_d3_13 : decode method_3_code 13 = .ok (.iconst 1, 1) := by decide +kernel
theorem own_d3_14 : decode method_3_code 14 = .ok (.ireturn, 1) := by decide +kernel
theorem own_ef_rm_exp2 (mM : MethodId) (x0 : Int32) : entryFrame mM #[(.int x0)] 1 = mkF mM 0 #[.val (.int x0)] [] := by first | (simp [entryFrame, mkF, argsToLocals, Value.category]; done) | rfl
def Q_rm_exp2 (Z : State)  (h0 : Heap) (n0 : Nat) (vV : Option Value) (hH : Heap) (lA : List Loc) : Prop := vV = some (.int (1 : Int32)) ∧ Fr n0 lA ∧ (hH = h0)
set_option maxRecDepth 65536 in
set_option maxHeartbeats 40000000 in
theorem rm_exp2 (lL : Launch) (Z : State) (a0 : Array Value) (hw : ∀ d ∈ tables_1, d.before a0 Z = true) (ws : List Jvm.Cond)  (h0 : Heap) (n0 : Nat) (Z0 : n0 ≤ h0.size) :
    MetFree lL (⟨"com/example/waldrapp/waldrapp/IntentStateSettledPinLaw", "expected", "(I)Z"⟩ : MethodName) (head1 (Jvm.Cond.code (⟨"com/example/waldrapp/waldrapp/IntentStateSettledPinLaw", "expected", "(I)Z"⟩ : MethodName) method_3_code 1 (some .boolean) :: ws) ({ frames := 0, cells := 0, slots := 0, locals := 0 } : Room)) (fun aA uU => aA = #[(.int (2 : Int32))] ∧ Z.Warmed39 uU.vm ∧ uU.heap = h0) (fun _ _ _ _ _ => True) (fun _ uU oO uU' => ∃ vV lA, oO = .returned vV ∧ Q_rm_exp2 Z  h0 n0 vV uU'.heap lA ∧ FrameEnd uU oO uU' lA ({ frames := 0, cells := 0, slots := 0, locals := 0 } : Room).cells ({ frames := 0, cells := 0, slots := 0, locals := 0 } : Room).slots) := by
  refine MetFree.of_bodySF (plainFor_of_name own_pn_com_example_waldrapp_waldrapp_IntentStateSettledPinLaw) hisR ?_
  intro pP eE sS mM args below meth cC s₁ Bd hml0 hP hK
  obtain ⟨rfl, hZ, hh⟩ := hP
  have hx := Bd.exec
  have hby := Bd.bytes
  have hml : cC.maxLocals = 1 := hml0
  have hown : sS.vm.findClass "com/example/waldrapp/waldrapp/IntentStateSettledPinLaw" = some mM.cls := findClass_of_methodNamed Bd.named
  have hnm := (name_of_methodNamed Bd.named Bd.method).1
  have X0 : Stand pP lL eE ({ frames := 0, cells := 0, slots := 0, locals := 0 } : Room) sS mM #[(.int (2 : Int32))] below meth cC s₁ [] 0 0 := Stand.of_body Bd
  have e0 : s₁.heap = h0 := by rw [← hh, Bd.state]; rfl
  have N0 := Fr.nil n0
  have K0 := Keep.refl h0 ([] : List Addr)
  show own_Fin pP eE below (fun tT oO => ∃ vV lA, oO = .returned vV ∧ Q_rm_exp2 Z  h0 n0 vV tT.heap lA ∧ FrameEnd sS oO tT lA ({ frames := 0, cells := 0, slots := 0, locals := 0 } : Room).cells ({ frames := 0, cells := 0, slots := 0, locals := 0 } : Room).slots) (s₁.setTop (entryFrame mM #[(.int (2 : Int32))] 1))
  refine own_fin (b := s₁.setTop (mkF mM 0 #[.val (.int (2 : Int32))] [])) (fun tT kK => castTop (own_ef_rm_exp2 mM (2 : Int32)) kK) ?_
  refine own_fin (b := s₁.setTop (mkF mM 14 #[.val (.int (2 : Int32))] [(.int (1 : Int32))])) (fun tT kK => ?_) ?_
  · show Steps pP.tables eE below (s₁.setTop (mkF mM 0 #[.val (.int (2 : Int32))] [])) tT
    refine XS.iloadN X0.here hx rfl (Jvm.hb hby own_d3_0) rfl ?_
    show Steps pP.tables eE below (s₁.setTop (mkF mM 1 #[.val (.int (2 : Int32))] [(.int (2 : Int32))])) tT
    refine XS.ifYes X0.here hx rfl (pc0 := 1) (pc' := 6) rfl (Jvm.hb hby own_d3_1) rfl ((if0 _ _).trans (feq ((by decide) : ¬ ((2 : Int32) = (0 : Int32)))).2) (by decide) (by decide) ?_
    show Steps pP.tables eE below (s₁.setTop (mkF mM 6 #[.val (.int (2 : Int32))] [])) tT
    refine XS.iloadN X0.here hx rfl (Jvm.hb hby own_d3_6) rfl ?_
    show Steps pP.tables eE below (s₁.setTop (mkF mM 7 #[.val (.int (2 : Int32))] [(.int (2 : Int32))])) tT
    refine XS.iconst X0.here hx rfl (Jvm.hb hby own_d3_7) ?_
    show Steps pP.tables eE below (s₁.setTop (mkF mM 8 #[.val (.int (2 : Int32))] [(.int (1 : Int32)), (.int (2 : Int32))])) tT
    refine XS.icmpYes X0.here hx rfl (pc0 := 8) (pc' := 13) rfl (Jvm.hb hby own_d3_8) rfl (feq ((by decide) : ¬ ((2 : Int32) = (1 : Int32)))).2 (by decide) (by decide) ?_
    show Steps pP.tables eE below (s₁.setTop (mkF mM 13 #[.val (.int (2 : Int32))] [])) tT
    refine XS.iconst X0.here hx rfl (Jvm.hb hby own_d3_13) ?_
    show Steps pP.tables eE below (s₁.setTop (mkF mM 14 #[.val (.int (2 : Int32))] [(.int (1 : Int32))])) tT
    exact kK
  obtain ⟨fs, hr, hrun, hended, hW, hsame⟩ := X0.leave (v := some (.int (1 : Int32))) (fun h => by rw [Bd.returns] at h; cases h)
  refine ⟨_, _, ?_, hrun, hended, _, _, rfl, ?_, ⟨_, rfl⟩, hW, hsame.mono (by decide) (by decide)⟩
  · show Steps pP.tables eE below (s₁.setTop (mkF mM 14 #[.val (.int (2 : Int32))] [(.int (1 : Int32))])) _
    exact retN X0 hx (t := .boolean) Bd.returns (by simp) (Jvm.hb hby own_d3_14) hr
  · show Q_rm_exp2 Z  h0 n0 _ s₁.heap _
    rw [e0]
    exact ⟨rfl, N0, rfl⟩
theorem own_d1_26 : decode method_2_code 26 = .ok (.getstatic 19, 3) := by decide +kernel
theorem own_d1_29 : decode method_2_code 29 = .ok (.areturn, 1) := by decide +kernel
theorem own_ef_rm_pick3 (mM : MethodId) (x0 : Int32) : entryFrame mM #[(.int x0)] 1 = mkF mM 0 #[.val (.int x0)] [] := by first | (simp [entryFrame, mkF, argsToLocals, Value.category]; done) | rfl
def Q_rm_pick3 (Z : State) (a : Addr) (h0 : Heap) (n0 : Nat) (vV : Option Value) (hH : Heap) (lA : List Loc) : Prop := vV = some (.ref a) ∧ Fr n0 lA ∧ (hH = h0)
set_option maxRecDepth 65536 in
set_option maxHeartbeats 40000000 in
theorem rm_pick3 (lL : Launch) (Z : State) (a0 : Array Value) (hw : ∀ d ∈ tables_1, d.before a0 Z = true) (ws : List Jvm.Cond) (a : Addr) (h0 : Heap) (n0 : Nat) (Z0 : n0 ≤ h0.size) (Sx : Sta Z h0 "com/example/waldrapp/waldrapp/IntentState" "REVERTED" "Lcom/example/waldrapp/waldrapp/IntentState;" (.ref a)) :
    MetFree lL (⟨"com/example/waldrapp/waldrapp/IntentStateSettledPinLaw", "pick", "(I)Lcom/example/waldrapp/waldrapp/IntentState;"⟩ : MethodName) (head1 (Jvm.Cond.code (⟨"com/example/waldrapp/waldrapp/IntentStateSettledPinLaw", "pick", "(I)Lcom/example/waldrapp/waldrapp/IntentState;"⟩ : MethodName) method_2_code 1 (some (.object "com/example/waldrapp/waldrapp/IntentState")) :: ws) ({ frames := 0, cells := 0, slots := 0, locals := 0 } : Room)) (fun aA uU => aA = #[(.int (3 : Int32))] ∧ Z.Warmed39 uU.vm ∧ uU.heap = h0) (fun _ _ _ _ _ => True) (fun _ uU oO uU' => ∃ vV lA, oO = .returned vV ∧ Q_rm_pick3 Z a h0 n0 vV uU'.heap lA ∧ FrameEnd uU oO uU' lA ({ frames := 0, cells := 0, slots := 0, locals := 0 } : Room).cells ({ frames := 0, cells := 0, slots := 0, locals := 0 } : Room).slots) := by
  refine MetFree.of_bodySF (plainFor_of_name own_pn_com_example_waldrapp_waldrapp_IntentStateSettledPinLaw) hisR ?_
  intro pP eE sS mM args below meth cC s₁ Bd hml0 hP hK
  obtain ⟨rfl, hZ, hh⟩ := hP
  have hx := Bd.exec
  have hby := Bd.bytes
  have hml : cC.maxLocals = 1 := hml0
  have hown : sS.vm.findClass "com/example/waldrapp/waldrapp/IntentStateSettledPinLaw" = some mM.cls := findClass_of_methodNamed Bd.named
  have hnm := (name_of_methodNamed Bd.named Bd.method).1
  have X0 : Stand pP lL eE ({ frames := 0, cells := 0, slots := 0, locals := 0 } : Room) sS mM #[(.int (3 : Int32))] below meth cC s₁ [] 0 0 := Stand.of_body Bd
  have e0 : s₁.heap = h0 := by rw [← hh, Bd.state]; rfl
  have N0 := Fr.nil n0
  have K0 := Keep.refl h0 ([] : List Addr)
  show own_Fin pP eE below (fun tT oO => ∃ vV lA, oO = .returned vV ∧ Q_rm_pick3 Z a h0 n0 vV tT.heap lA ∧ FrameEnd sS oO tT lA ({ frames := 0, cells := 0, slots := 0, locals := 0 } : Room).cells ({ frames := 0, cells := 0, slots := 0, locals := 0 } : Room).slots) (s₁.setTop (entryFrame mM #[(.int (3 : Int32))] 1))
  refine own_fin (b := s₁.setTop (mkF mM 0 #[.val (.int (3 : Int32))] [])) (fun tT kK => castTop (own_ef_rm_pick3 mM (3 : Int32)) kK) ?_
  refine own_fin (b := s₁.setTop (mkF mM 26 #[.val (.int (3 : Int32))] [])) (fun tT kK => ?_) ?_
  · show Steps pP.tables eE below (s₁.setTop (mkF mM 0 #[.val (.int (3 : Int32))] [])) tT
    refine XS.iloadN X0.here hx rfl (Jvm.hb hby own_d1_0) rfl ?_
    show Steps pP.tables eE below (s₁.setTop (mkF mM 1 #[.val (.int (3 : Int32))] [(.int (3 : Int32))])) tT
    refine XS.ifYes X0.here hx rfl (pc0 := 1) (pc' := 8) rfl (Jvm.hb hby own_d1_1) rfl ((if0 _ _).trans (feq ((by decide) : ¬ ((3 : Int32) = (0 : Int32)))).2) (by decide) (by decide) ?_
    show Steps pP.tables eE below (s₁.setTop (mkF mM 8 #[.val (.int (3 : Int32))] [])) tT
    refine XS.iloadN X0.here hx rfl (Jvm.hb hby own_d1_8) rfl ?_
    show Steps pP.tables eE below (s₁.setTop (mkF mM 9 #[.val (.int (3 : Int32))] [(.int (3 : Int32))])) tT
    refine XS.iconst X0.here hx rfl (Jvm.hb hby own_d1_9) ?_
    show Steps pP.tables eE below (s₁.setTop (mkF mM 10 #[.val (.int (3 : Int32))] [(.int (1 : Int32)), (.int (3 : Int32))])) tT
    refine XS.icmpYes X0.here hx rfl (pc0 := 10) (pc' := 17) rfl (Jvm.hb hby own_d1_10) rfl (feq ((by decide) : ¬ ((3 : Int32) = (1 : Int32)))).2 (by decide) (by decide) ?_
    show Steps pP.tables eE below (s₁.setTop (mkF mM 17 #[.val (.int (3 : Int32))] [])) tT
    refine XS.iloadN X0.here hx rfl (Jvm.hb hby own_d1_17) rfl ?_
    show Steps pP.tables eE below (s₁.setTop (mkF mM 18 #[.val (.int (3 : Int32))] [(.int (3 : Int32))])) tT
    refine XS.iconst X0.here hx rfl (Jvm.hb hby own_d1_18) ?_
    show Steps pP.tables eE below (s₁.setTop (mkF mM 19 #[.val (.int (3 : Int32))] [(.int (2 : Int32)), (.int (3 : Int32))])) tT
    refine XS.icmpYes X0.here hx rfl (pc0 := 19) (pc' := 26) rfl (Jvm.hb hby own_d1_19) rfl (feq ((by decide) : ¬ ((3 : Int32) = (2 : Int32)))).2 (by decide) (by decide) ?_
    show Steps pP.tables eE below (s₁.setTop (mkF mM 26 #[.val (.int (3 : Int32))] [])) tT
    exact kK
  obtain ⟨T1_, X1_, e1_, st1_⟩ := getS2 X0 hx hZ hown (host := "") (Or.inl (hw _ (List.mem_of_getElem? (i := 19) rfl))) Via.refl e0 Sx (g := (mkF mM 26 #[.val (.int (3 : Int32))] [])) rfl (Jvm.hb hby own_d1_26)
  refine own_fin st1_ ?_
  show own_Fin pP eE below _ (T1_.setTop (mkF mM 29 #[.val (.int (3 : Int32))] [(.ref a)]))
  obtain ⟨fs, hr, hrun, hended, hW, hsame⟩ := X1_.leave (v := some (.ref a)) (fun h => by rw [Bd.returns] at h; cases h)
  refine ⟨_, _, ?_, hrun, hended, _, _, rfl, ?_, ⟨_, rfl⟩, hW, hsame.mono (by decide) (by decide)⟩
  · show Steps pP.tables eE below (T1_.setTop (mkF mM 29 #[.val (.int (3 : Int32))] [(.ref a)])) _
    exact retOut X1_ hx Bd.returns rfl (Or.inr (Or.inr (Or.inr (Or.inr ⟨rfl, rfl, rfl⟩)))) (Jvm.hb hby own_d1_29) hr
  · show Q_rm_pick3 Z a h0 n0 _ T1_.heap _
    rw [e1_]
    exact ⟨rfl, N0, rfl⟩
theorem own_ef_rm_exp3 (mM : MethodId) (x0 : Int32) : entryFrame mM #[(.int x0)] 1 = mkF mM 0 #[.val (.int x0)] [] := by first | (simp [entryFrame, mkF, argsToLocals, Value.category]; done) | rfl
def Q_rm_exp3 (Z : State)  (h0 : Heap) (n0 : Nat) (vV : Option Value) (hH : Heap) (lA : List Loc) : Prop := vV = some (.int (1 : Int32)) ∧ Fr n0 lA ∧ (hH = h0)
set_option maxRecDepth 65536 in
set_option maxHeartbeats 40000000 in
theorem rm_exp3 (lL : Launch) (Z : State) (a0 : Array Value) (hw : ∀ d ∈ tables_1, d.before a0 Z = true) (ws : List Jvm.Cond)  (h0 : Heap) (n0 : Nat) (Z0 : n0 ≤ h0.size) :
    MetFree lL (⟨"com/example/waldrapp/waldrapp/IntentStateSettledPinLaw", "expected", "(I)Z"⟩ : MethodName) (head1 (Jvm.Cond.code (⟨"com/example/waldrapp/waldrapp/IntentStateSettledPinLaw", "expected", "(I)Z"⟩ : MethodName) method_3_code 1 (some .boolean) :: ws) ({ frames := 0, cells := 0, slots := 0, locals := 0 } : Room)) (fun aA uU => aA = #[(.int (3 : Int32))] ∧ Z.Warmed39 uU.vm ∧ uU.heap = h0) (fun _ _ _ _ _ => True) (fun _ uU oO uU' => ∃ vV lA, oO = .returned vV ∧ Q_rm_exp3 Z  h0 n0 vV uU'.heap lA ∧ FrameEnd uU oO uU' lA ({ frames := 0, cells := 0, slots := 0, locals := 0 } : Room).cells ({ frames := 0, cells := 0, slots := 0, locals := 0 } : Room).slots) := by
  refine MetFree.of_bodySF (plainFor_of_name own_pn_com_example_waldrapp_waldrapp_IntentStateSettledPinLaw) hisR ?_
  intro pP eE sS mM args below meth cC s₁ Bd hml0 hP hK
  obtain ⟨rfl, hZ, hh⟩ := hP
  have hx := Bd.exec
  have hby := Bd.bytes
  have hml : cC.maxLocals = 1 := hml0
  have hown : sS.vm.findClass "com/example/waldrapp/waldrapp/IntentStateSettledPinLaw" = some mM.cls := findClass_of_methodNamed Bd.named
  have hnm := (name_of_methodNamed Bd.named Bd.method).1
  have X0 : Stand pP lL eE ({ frames := 0, cells := 0, slots := 0, locals := 0 } : Room) sS mM #[(.int (3 : Int32))] below meth cC s₁ [] 0 0 := Stand.of_body Bd
  have e0 : s₁.heap = h0 := by rw [← hh, Bd.state]; rfl
  have N0 := Fr.nil n0
  have K0 := Keep.refl h0 ([] : List Addr)
  show own_Fin pP eE below (fun tT oO => ∃ vV lA, oO = .returned vV ∧ Q_rm_exp3 Z  h0 n0 vV tT.heap lA ∧ FrameEnd sS oO tT lA ({ frames := 0, cells := 0, slots := 0, locals := 0 } : Room).cells ({ frames := 0, cells := 0, slots := 0, locals := 0 } : Room).slots) (s₁.setTop (entryFrame mM #[(.int (3 : Int32))] 1))
  refine own_fin (b := s₁.setTop (mkF mM 0 #[.val (.int (3 : Int32))] [])) (fun tT kK => castTop (own_ef_rm_exp3 mM (3 : Int32)) kK) ?_
  refine own_fin (b := s₁.setTop (mkF mM 14 #[.val (.int (3 : Int32))] [(.int (1 : Int32))])) (fun tT kK => ?_) ?_
  · show Steps pP.tables eE below (s₁.setTop (mkF mM 0 #[.val (.int (3 : Int32))] [])) tT
    refine XS.iloadN X0.here hx rfl (Jvm.hb hby own_d3_0) rfl ?_
    show Steps pP.tables eE below (s₁.setTop (mkF mM 1 #[.val (.int (3 : Int32))] [(.int (3 : Int32))])) tT
    refine XS.ifYes X0.here hx rfl (pc0 := 1) (pc' := 6) rfl (Jvm.hb hby own_d3_1) rfl ((if0 _ _).trans (feq ((by decide) : ¬ ((3 : Int32) = (0 : Int32)))).2) (by decide) (by decide) ?_
    show Steps pP.tables eE below (s₁.setTop (mkF mM 6 #[.val (.int (3 : Int32))] [])) tT
    refine XS.iloadN X0.here hx rfl (Jvm.hb hby own_d3_6) rfl ?_
    show Steps pP.tables eE below (s₁.setTop (mkF mM 7 #[.val (.int (3 : Int32))] [(.int (3 : Int32))])) tT
    refine XS.iconst X0.here hx rfl (Jvm.hb hby own_d3_7) ?_
    show Steps pP.tables eE below (s₁.setTop (mkF mM 8 #[.val (.int (3 : Int32))] [(.int (1 : Int32)), (.int (3 : Int32))])) tT
    refine XS.icmpYes X0.here hx rfl (pc0 := 8) (pc' := 13) rfl (Jvm.hb hby own_d3_8) rfl (feq ((by decide) : ¬ ((3 : Int32) = (1 : Int32)))).2 (by decide) (by decide) ?_
    show Steps pP.tables eE below (s₁.setTop (mkF mM 13 #[.val (.int (3 : Int32))] [])) tT
    refine XS.iconst X0.here hx rfl (Jvm.hb hby own_d3_13) ?_
    show Steps pP.tables eE below (s₁.setTop (mkF mM 14 #[.val (.int (3 : Int32))] [(.int (1 : Int32))])) tT
    exact kK
  obtain ⟨fs, hr, hrun, hended, hW, hsame⟩ := X0.leave (v := some (.int (1 : Int32))) (fun h => by rw [Bd.returns] at h; cases h)
  refine ⟨_, _, ?_, hrun, hended, _, _, rfl, ?_, ⟨_, rfl⟩, hW, hsame.mono (by decide) (by decide)⟩
  · show Steps pP.tables eE below (s₁.setTop (mkF mM 14 #[.val (.int (3 : Int32))] [(.int (1 : Int32))])) _
    exact retN X0 hx (t := .boolean) Bd.returns (by simp) (Jvm.hb hby own_d3_14) hr
  · show Q_rm_exp3 Z  h0 n0 _ s₁.heap _
    rw [e0]
    exact ⟨rfl, N0, rfl⟩
theorem own_d2_0 : decode prog_16_method_5_code 0 = .ok (.aload_n 0, 1) := by decide +kernel
theorem own_d2_1 : decode prog_16_method_5_code 1 = .ok (.getstatic 10, 3) := by decide +kernel
theorem own_d2_4 : decode prog_16_method_5_code 4 = .ok (.if_acmp .eq 10, 3) := by decide +kernel
theorem own_d2_14 : decode prog_16_method_5_code 14 = .ok (.iconst 1, 1) := by decide +kernel
theorem own_d2_15 : decode prog_16_method_5_code 15 = .ok (.goto 4, 3) := by decide +kernel
theorem own_d2_19 : decode prog_16_method_5_code 19 = .ok (.ireturn, 1) := by decide +kernel
theorem own_pn_com_example_waldrapp_waldrapp_IntentState : plainName "com/example/waldrapp/waldrapp/IntentState" = true := by first | (simp [plainName, overriddenIn]; done) | decide +kernel
theorem own_ef_rm_setA (mM : MethodId) (x0 : Addr) : entryFrame mM #[(.ref x0)] 1 = mkF mM 0 #[.val (.ref x0)] [] := by first | (simp [entryFrame, mkF, argsToLocals, Value.category]; done) | rfl
def Q_rm_setA (Z : State) (a : Addr) (h0 : Heap) (n0 : Nat) (vV : Option Value) (hH : Heap) (lA : List Loc) : Prop := vV = some (.int (1 : Int32)) ∧ Fr n0 lA ∧ (hH = h0)
set_option maxRecDepth 65536 in
set_option maxHeartbeats 40000000 in
theorem rm_setA (lL : Launch) (Z : State) (a0 : Array Value) (hw : ∀ d ∈ tables_1, d.before a0 Z = true) (ws : List Jvm.Cond) (a : Addr) (h0 : Heap) (n0 : Nat) (Z0 : n0 ≤ h0.size) (Sx : Sta Z h0 "com/example/waldrapp/waldrapp/IntentState" "APPLIED" "Lcom/example/waldrapp/waldrapp/IntentState;" (.ref a)) :
    MetFree lL (⟨"com/example/waldrapp/waldrapp/IntentState", "settled", "()Z"⟩ : MethodName) (head1 (Jvm.Cond.code (⟨"com/example/waldrapp/waldrapp/IntentState", "settled", "()Z"⟩ : MethodName) prog_16_method_5_code 1 (some .boolean) :: ws) ({ frames := 0, cells := 0, slots := 0, locals := 0 } : Room)) (fun aA uU => aA = #[(.ref a)] ∧ Z.Warmed39 uU.vm ∧ uU.heap = h0) (fun _ _ _ _ _ => True) (fun _ uU oO uU' => ∃ vV lA, oO = .returned vV ∧ Q_rm_setA Z a h0 n0 vV uU'.heap lA ∧ FrameEnd uU oO uU' lA ({ frames := 0, cells := 0, slots := 0, locals := 0 } : Room).cells ({ frames := 0, cells := 0, slots := 0, locals := 0 } : Room).slots) := by
  refine MetFree.of_bodySF (plainFor_of_name own_pn_com_example_waldrapp_waldrapp_IntentState) hisR ?_
  intro pP eE sS mM args below meth cC s₁ Bd hml0 hP hK
  obtain ⟨rfl, hZ, hh⟩ := hP
  have hx := Bd.exec
  have hby := Bd.bytes
  have hml : cC.maxLocals = 1 := hml0
  have hown : sS.vm.findClass "com/example/waldrapp/waldrapp/IntentState" = some mM.cls := findClass_of_methodNamed Bd.named
  have hnm := (name_of_methodNamed Bd.named Bd.method).1
  have X0 : Stand pP lL eE ({ frames := 0, cells := 0, slots := 0, locals := 0 } : Room) sS mM #[(.ref a)] below meth cC s₁ [] 0 0 := Stand.of_body Bd
  have e0 : s₁.heap = h0 := by rw [← hh, Bd.state]; rfl
  have N0 := Fr.nil n0
  have K0 := Keep.refl h0 ([] : List Addr)
  show own_Fin pP eE below (fun tT oO => ∃ vV lA, oO = .returned vV ∧ Q_rm_setA Z a h0 n0 vV tT.heap lA ∧ FrameEnd sS oO tT lA ({ frames := 0, cells := 0, slots := 0, locals := 0 } : Room).cells ({ frames := 0, cells := 0, slots := 0, locals := 0 } : Room).slots) (s₁.setTop (entryFrame mM #[(.ref a)] 1))
  refine own_fin (b := s₁.setTop (mkF mM 0 #[.val (.ref a)] [])) (fun tT kK => castTop (own_ef_rm_setA mM a) kK) ?_
  refine own_fin (b := s₁.setTop (mkF mM 1 #[.val (.ref a)] [(.ref a)])) (fun tT kK => ?_) ?_
  · show Steps pP.tables eE below (s₁.setTop (mkF mM 0 #[.val (.ref a)] [])) tT
    refine XS.aloadN X0.here hx rfl (Jvm.hb hby own_d2_0) rfl rfl ?_
    show Steps pP.tables eE below (s₁.setTop (mkF mM 1 #[.val (.ref a)] [(.ref a)])) tT
    exact kK
  obtain ⟨T1_, X1_, e1_, st1_⟩ := getS2 X0 hx hZ hown (host := "") (Or.inl (hw _ (List.mem_of_getElem? (i := 12) rfl))) Via.refl e0 Sx (g := (mkF mM 1 #[.val (.ref a)] [(.ref a)])) rfl (Jvm.hb hby own_d2_1)
  refine own_fin st1_ ?_
  show own_Fin pP eE below _ (T1_.setTop (mkF mM 4 #[.val (.ref a)] [(.ref a), (.ref a)]))
  refine own_fin (b := T1_.setTop (mkF mM 19 #[.val (.ref a)] [(.int (1 : Int32))])) (fun tT kK => ?_) ?_
  · show Steps pP.tables eE below (T1_.setTop (mkF mM 4 #[.val (.ref a)] [(.ref a), (.ref a)])) tT
    refine Jvm.RoadKit.acmp (g := (mkF mM 4 #[.val (.ref a)] [(.ref a), (.ref a)])) X1_ hx rfl rfl rfl (pc0 := 4) (pc' := 14) (same := true) rfl (Jvm.hb hby own_d2_4) rfl (decide_eq_true rfl) (by decide) (by decide) ?_
    show Steps pP.tables eE below (T1_.setTop (mkF mM 14 #[.val (.ref a)] [])) tT
    refine XS.iconst X1_.here hx rfl (Jvm.hb hby own_d2_14) ?_
    show Steps pP.tables eE below (T1_.setTop (mkF mM 15 #[.val (.ref a)] [(.int (1 : Int32))])) tT
    refine XS.goto X1_.here hx rfl (pc0 := 15) (pc' := 19) rfl (Jvm.hb hby own_d2_15) (by decide) (by decide) ?_
    show Steps pP.tables eE below (T1_.setTop (mkF mM 19 #[.val (.ref a)] [(.int (1 : Int32))])) tT
    exact kK
  obtain ⟨fs, hr, hrun, hended, hW, hsame⟩ := X1_.leave (v := some (.int (1 : Int32))) (fun h => by rw [Bd.returns] at h; cases h)
  refine ⟨_, _, ?_, hrun, hended, _, _, rfl, ?_, ⟨_, rfl⟩, hW, hsame.mono (by decide) (by decide)⟩
  · show Steps pP.tables eE below (T1_.setTop (mkF mM 19 #[.val (.ref a)] [(.int (1 : Int32))])) _
    exact retN X1_ hx (t := .boolean) Bd.returns (by simp) (Jvm.hb hby own_d2_19) hr
  · show Q_rm_setA Z a h0 n0 _ T1_.heap _
    rw [e1_]
    exact ⟨rfl, N0, rfl⟩
theorem own_d2_7 : decode prog_16_method_5_code 7 = .ok (.aload_n 0, 1) := by decide +kernel
theorem own_d2_8 : decode prog_16_method_5_code 8 = .ok (.getstatic 13, 3) := by decide +kernel
theorem own_d2_11 : decode prog_16_method_5_code 11 = .ok (.if_acmp .ne 7, 3) := by decide +kernel
theorem own_ef_rm_setR (mM : MethodId) (x0 : Addr) : entryFrame mM #[(.ref x0)] 1 = mkF mM 0 #[.val (.ref x0)] [] := by first | (simp [entryFrame, mkF, argsToLocals, Value.category]; done) | rfl
def Q_rm_setR (Z : State) (a : Addr) (b : Addr) (h0 : Heap) (n0 : Nat) (vV : Option Value) (hH : Heap) (lA : List Loc) : Prop := vV = some (.int (1 : Int32)) ∧ Fr n0 lA ∧ (hH = h0)
set_option maxRecDepth 65536 in
set_option maxHeartbeats 40000000 in
theorem rm_setR (lL : Launch) (Z : State) (a0 : Array Value) (hw : ∀ d ∈ tables_1, d.before a0 Z = true) (ws : List Jvm.Cond) (a : Addr) (b : Addr) (h0 : Heap) (n0 : Nat) (Z0 : n0 ≤ h0.size) (Sx : Sta Z h0 "com/example/waldrapp/waldrapp/IntentState" "APPLIED" "Lcom/example/waldrapp/waldrapp/IntentState;" (.ref b)) (Sy : Sta Z h0 "com/example/waldrapp/waldrapp/IntentState" "REVERTED" "Lcom/example/waldrapp/waldrapp/IntentState;" (.ref a)) (nx : a ≠ b) :
    MetFree lL (⟨"com/example/waldrapp/waldrapp/IntentState", "settled", "()Z"⟩ : MethodName) (head1 (Jvm.Cond.code (⟨"com/example/waldrapp/waldrapp/IntentState", "settled", "()Z"⟩ : MethodName) prog_16_method_5_code 1 (some .boolean) :: ws) ({ frames := 0, cells := 0, slots := 0, locals := 0 } : Room)) (fun aA uU => aA = #[(.ref a)] ∧ Z.Warmed39 uU.vm ∧ uU.heap = h0) (fun _ _ _ _ _ => True) (fun _ uU oO uU' => ∃ vV lA, oO = .returned vV ∧ Q_rm_setR Z a b h0 n0 vV uU'.heap lA ∧ FrameEnd uU oO uU' lA ({ frames := 0, cells := 0, slots := 0, locals := 0 } : Room).cells ({ frames := 0, cells := 0, slots := 0, locals := 0 } : Room).slots) := by
  refine MetFree.of_bodySF (plainFor_of_name own_pn_com_example_waldrapp_waldrapp_IntentState) hisR ?_
  intro pP eE sS mM args below meth cC s₁ Bd hml0 hP hK
  obtain ⟨rfl, hZ, hh⟩ := hP
  have hx := Bd.exec
  have hby := Bd.bytes
  have hml : cC.maxLocals = 1 := hml0
  have hown : sS.vm.findClass "com/example/waldrapp/waldrapp/IntentState" = some mM.cls := findClass_of_methodNamed Bd.named
  have hnm := (name_of_methodNamed Bd.named Bd.method).1
  have X0 : Stand pP lL eE ({ frames := 0, cells := 0, slots := 0, locals := 0 } : Room) sS mM #[(.ref a)] below meth cC s₁ [] 0 0 := Stand.of_body Bd
  have e0 : s₁.heap = h0 := by rw [← hh, Bd.state]; rfl
  have N0 := Fr.nil n0
  have K0 := Keep.refl h0 ([] : List Addr)
  show own_Fin pP eE below (fun tT oO => ∃ vV lA, oO = .returned vV ∧ Q_rm_setR Z a b h0 n0 vV tT.heap lA ∧ FrameEnd sS oO tT lA ({ frames := 0, cells := 0, slots := 0, locals := 0 } : Room).cells ({ frames := 0, cells := 0, slots := 0, locals := 0 } : Room).slots) (s₁.setTop (entryFrame mM #[(.ref a)] 1))
  refine own_fin (b := s₁.setTop (mkF mM 0 #[.val (.ref a)] [])) (fun tT kK => castTop (own_ef_rm_setR mM a) kK) ?_
  refine own_fin (b := s₁.setTop (mkF mM 1 #[.val (.ref a)] [(.ref a)])) (fun tT kK => ?_) ?_
  · show Steps pP.tables eE below (s₁.setTop (mkF mM 0 #[.val (.ref a)] [])) tT
    refine XS.aloadN X0.here hx rfl (Jvm.hb hby own_d2_0) rfl rfl ?_
    show Steps pP.tables eE below (s₁.setTop (mkF mM 1 #[.val (.ref a)] [(.ref a)])) tT
    exact kK
  obtain ⟨T1_, X1_, e1_, st1_⟩ := getS2 X0 hx hZ hown (host := "") (Or.inl (hw _ (List.mem_of_getElem? (i := 12) rfl))) Via.refl e0 Sx (g := (mkF mM 1 #[.val (.ref a)] [(.ref a)])) rfl (Jvm.hb hby own_d2_1)
  refine own_fin st1_ ?_
  show own_Fin pP eE below _ (T1_.setTop (mkF mM 4 #[.val (.ref a)] [(.ref b), (.ref a)]))
  refine own_fin (b := T1_.setTop (mkF mM 8 #[.val (.ref a)] [(.ref a)])) (fun tT kK => ?_) ?_
  · show Steps pP.tables eE below (T1_.setTop (mkF mM 4 #[.val (.ref a)] [(.ref b), (.ref a)])) tT
    refine Jvm.RoadKit.acmp (g := (mkF mM 4 #[.val (.ref a)] [(.ref b), (.ref a)])) X1_ hx rfl rfl rfl (pc0 := 4) (pc' := 7) (same := false) rfl (Jvm.hb hby own_d2_4) rfl (decide_eq_false fun q => nx (Value.ref.inj q)) (by decide) (by decide) ?_
    show Steps pP.tables eE below (T1_.setTop (mkF mM 7 #[.val (.ref a)] [])) tT
    refine XS.aloadN X1_.here hx rfl (Jvm.hb hby own_d2_7) rfl rfl ?_
    show Steps pP.tables eE below (T1_.setTop (mkF mM 8 #[.val (.ref a)] [(.ref a)])) tT
    exact kK
  obtain ⟨T2_, X2_, e2_, st2_⟩ := getS2 X1_ hx hZ hown (host := "") (Or.inl (hw _ (List.mem_of_getElem? (i := 14) rfl))) Via.refl e1_ Sy (g := (mkF mM 8 #[.val (.ref a)] [(.ref a)])) rfl (Jvm.hb hby own_d2_8)
  refine own_fin st2_ ?_
  show own_Fin pP eE below _ (T2_.setTop (mkF mM 11 #[.val (.ref a)] [(.ref a), (.ref a)]))
  refine own_fin (b := T2_.setTop (mkF mM 19 #[.val (.ref a)] [(.int (1 : Int32))])) (fun tT kK => ?_) ?_
  · show Steps pP.tables eE below (T2_.setTop (mkF mM 11 #[.val (.ref a)] [(.ref a), (.ref a)])) tT
    refine Jvm.RoadKit.acmp (g := (mkF mM 11 #[.val (.ref a)] [(.ref a), (.ref a)])) X2_ hx rfl rfl rfl (pc0 := 11) (pc' := 14) (same := true) rfl (Jvm.hb hby own_d2_11) rfl (decide_eq_true rfl) (by decide) (by decide) ?_
    show Steps pP.tables eE below (T2_.setTop (mkF mM 14 #[.val (.ref a)] [])) tT
    refine XS.iconst X2_.here hx rfl (Jvm.hb hby own_d2_14) ?_
    show Steps pP.tables eE below (T2_.setTop (mkF mM 15 #[.val (.ref a)] [(.int (1 : Int32))])) tT
    refine XS.goto X2_.here hx rfl (pc0 := 15) (pc' := 19) rfl (Jvm.hb hby own_d2_15) (by decide) (by decide) ?_
    show Steps pP.tables eE below (T2_.setTop (mkF mM 19 #[.val (.ref a)] [(.int (1 : Int32))])) tT
    exact kK
  obtain ⟨fs, hr, hrun, hended, hW, hsame⟩ := X2_.leave (v := some (.int (1 : Int32))) (fun h => by rw [Bd.returns] at h; cases h)
  refine ⟨_, _, ?_, hrun, hended, _, _, rfl, ?_, ⟨_, rfl⟩, hW, hsame.mono (by decide) (by decide)⟩
  · show Steps pP.tables eE below (T2_.setTop (mkF mM 19 #[.val (.ref a)] [(.int (1 : Int32))])) _
    exact retN X2_ hx (t := .boolean) Bd.returns (by simp) (Jvm.hb hby own_d2_19) hr
  · show Q_rm_setR Z a b h0 n0 _ T2_.heap _
    rw [e2_]
    exact ⟨rfl, N0, rfl⟩
theorem own_d2_18 : decode prog_16_method_5_code 18 = .ok (.iconst 0, 1) := by decide +kernel
theorem own_ef_rm_setN (mM : MethodId) (x0 : Addr) : entryFrame mM #[(.ref x0)] 1 = mkF mM 0 #[.val (.ref x0)] [] := by first | (simp [entryFrame, mkF, argsToLocals, Value.category]; done) | rfl
def Q_rm_setN (Z : State) (a : Addr) (b : Addr) (c : Addr) (h0 : Heap) (n0 : Nat) (vV : Option Value) (hH : Heap) (lA : List Loc) : Prop := vV = some (.int (0 : Int32)) ∧ Fr n0 lA ∧ (hH = h0)
set_option maxRecDepth 65536 in
set_option maxHeartbeats 40000000 in
theorem rm_setN (lL : Launch) (Z : State) (a0 : Array Value) (hw : ∀ d ∈ tables_1, d.before a0 Z = true) (ws : List Jvm.Cond) (a : Addr) (b : Addr) (c : Addr) (h0 : Heap) (n0 : Nat) (Z0 : n0 ≤ h0.size) (Sx : Sta Z h0 "com/example/waldrapp/waldrapp/IntentState" "APPLIED" "Lcom/example/waldrapp/waldrapp/IntentState;" (.ref b)) (Sy : Sta Z h0 "com/example/waldrapp/waldrapp/IntentState" "REVERTED" "Lcom/example/waldrapp/waldrapp/IntentState;" (.ref c)) (nx : a ≠ b) (ny : a ≠ c) :
    MetFree lL (⟨"com/example/waldrapp/waldrapp/IntentState", "settled", "()Z"⟩ : MethodName) (head1 (Jvm.Cond.code (⟨"com/example/waldrapp/waldrapp/IntentState", "settled", "()Z"⟩ : MethodName) prog_16_method_5_code 1 (some .boolean) :: ws) ({ frames := 0, cells := 0, slots := 0, locals := 0 } : Room)) (fun aA uU => aA = #[(.ref a)] ∧ Z.Warmed39 uU.vm ∧ uU.heap = h0) (fun _ _ _ _ _ => True) (fun _ uU oO uU' => ∃ vV lA, oO = .returned vV ∧ Q_rm_setN Z a b c h0 n0 vV uU'.heap lA ∧ FrameEnd uU oO uU' lA ({ frames := 0, cells := 0, slots := 0, locals := 0 } : Room).cells ({ frames := 0, cells := 0, slots := 0, locals := 0 } : Room).slots) := by
  refine MetFree.of_bodySF (plainFor_of_name own_pn_com_example_waldrapp_waldrapp_IntentState) hisR ?_
  intro pP eE sS mM args below meth cC s₁ Bd hml0 hP hK
  obtain ⟨rfl, hZ, hh⟩ := hP
  have hx := Bd.exec
  have hby := Bd.bytes
  have hml : cC.maxLocals = 1 := hml0
  have hown : sS.vm.findClass "com/example/waldrapp/waldrapp/IntentState" = some mM.cls := findClass_of_methodNamed Bd.named
  have hnm := (name_of_methodNamed Bd.named Bd.method).1
  have X0 : Stand pP lL eE ({ frames := 0, cells := 0, slots := 0, locals := 0 } : Room) sS mM #[(.ref a)] below meth cC s₁ [] 0 0 := Stand.of_body Bd
  have e0 : s₁.heap = h0 := by rw [← hh, Bd.state]; rfl
  have N0 := Fr.nil n0
  have K0 := Keep.refl h0 ([] : List Addr)
  show own_Fin pP eE below (fun tT oO => ∃ vV lA, oO = .returned vV ∧ Q_rm_setN Z a b c h0 n0 vV tT.heap lA ∧ FrameEnd sS oO tT lA ({ frames := 0, cells := 0, slots := 0, locals := 0 } : Room).cells ({ frames := 0, cells := 0, slots := 0, locals := 0 } : Room).slots) (s₁.setTop (entryFrame mM #[(.ref a)] 1))
  refine own_fin (b := s₁.setTop (mkF mM 0 #[.val (.ref a)] [])) (fun tT kK => castTop (own_ef_rm_setN mM a) kK) ?_
  refine own_fin (b := s₁.setTop (mkF mM 1 #[.val (.ref a)] [(.ref a)])) (fun tT kK => ?_) ?_
  · show Steps pP.tables eE below (s₁.setTop (mkF mM 0 #[.val (.ref a)] [])) tT
    refine XS.aloadN X0.here hx rfl (Jvm.hb hby own_d2_0) rfl rfl ?_
    show Steps pP.tables eE below (s₁.setTop (mkF mM 1 #[.val (.ref a)] [(.ref a)])) tT
    exact kK
  obtain ⟨T1_, X1_, e1_, st1_⟩ := getS2 X0 hx hZ hown (host := "") (Or.inl (hw _ (List.mem_of_getElem? (i := 12) rfl))) Via.refl e0 Sx (g := (mkF mM 1 #[.val (.ref a)] [(.ref a)])) rfl (Jvm.hb hby own_d2_1)
  refine own_fin st1_ ?_
  show own_Fin pP eE below _ (T1_.setTop (mkF mM 4 #[.val (.ref a)] [(.ref b), (.ref a)]))
  refine own_fin (b := T1_.setTop (mkF mM 8 #[.val (.ref a)] [(.ref a)])) (fun tT kK => ?_) ?_
  · show Steps pP.tables eE below (T1_.setTop (mkF mM 4 #[.val (.ref a)] [(.ref b), (.ref a)])) tT
    refine Jvm.RoadKit.acmp (g := (mkF mM 4 #[.val (.ref a)] [(.ref b), (.ref a)])) X1_ hx rfl rfl rfl (pc0 := 4) (pc' := 7) (same := false) rfl (Jvm.hb hby own_d2_4) rfl (decide_eq_false fun q => nx (Value.ref.inj q)) (by decide) (by decide) ?_
    show Steps pP.tables eE below (T1_.setTop (mkF mM 7 #[.val (.ref a)] [])) tT
    refine XS.aloadN X1_.here hx rfl (Jvm.hb hby own_d2_7) rfl rfl ?_
    show Steps pP.tables eE below (T1_.setTop (mkF mM 8 #[.val (.ref a)] [(.ref a)])) tT
    exact kK
  obtain ⟨T2_, X2_, e2_, st2_⟩ := getS2 X1_ hx hZ hown (host := "") (Or.inl (hw _ (List.mem_of_getElem? (i := 14) rfl))) Via.refl e1_ Sy (g := (mkF mM 8 #[.val (.ref a)] [(.ref a)])) rfl (Jvm.hb hby own_d2_8)
  refine own_fin st2_ ?_
  show own_Fin pP eE below _ (T2_.setTop (mkF mM 11 #[.val (.ref a)] [(.ref c), (.ref a)]))
  refine own_fin (b := T2_.setTop (mkF mM 19 #[.val (.ref a)] [(.int (0 : Int32))])) (fun tT kK => ?_) ?_
  · show Steps pP.tables eE below (T2_.setTop (mkF mM 11 #[.val (.ref a)] [(.ref c), (.ref a)])) tT
    refine Jvm.RoadKit.acmp (g := (mkF mM 11 #[.val (.ref a)] [(.ref c), (.ref a)])) X2_ hx rfl rfl rfl (pc0 := 11) (pc' := 18) (same := false) rfl (Jvm.hb hby own_d2_11) rfl (decide_eq_false fun q => ny (Value.ref.inj q)) (by decide) (by decide) ?_
    show Steps pP.tables eE below (T2_.setTop (mkF mM 18 #[.val (.ref a)] [])) tT
    refine XS.iconst X2_.here hx rfl (Jvm.hb hby own_d2_18) ?_
    show Steps pP.tables eE below (T2_.setTop (mkF mM 19 #[.val (.ref a)] [(.int (0 : Int32))])) tT
    exact kK
  obtain ⟨fs, hr, hrun, hended, hW, hsame⟩ := X2_.leave (v := some (.int (0 : Int32))) (fun h => by rw [Bd.returns] at h; cases h)
  refine ⟨_, _, ?_, hrun, hended, _, _, rfl, ?_, ⟨_, rfl⟩, hW, hsame.mono (by decide) (by decide)⟩
  · show Steps pP.tables eE below (T2_.setTop (mkF mM 19 #[.val (.ref a)] [(.int (0 : Int32))])) _
    exact retN X2_ hx (t := .boolean) Bd.returns (by simp) (Jvm.hb hby own_d2_19) hr
  · show Q_rm_setN Z a b c h0 n0 _ T2_.heap _
    rw [e2_]
    exact ⟨rfl, N0, rfl⟩
theorem own_pd0 : parseMethodDescriptor "(I)Lcom/example/waldrapp/waldrapp/IntentState;" = some ⟨[.int], some (.object "com/example/waldrapp/waldrapp/IntentState")⟩ := by decide +kernel
theorem own_pd1 : parseMethodDescriptor "()Z" = some ⟨[], some .boolean⟩ := by decide +kernel
theorem own_pd2 : parseMethodDescriptor "(I)Z" = some ⟨[.int], some .boolean⟩ := by decide +kernel
theorem own_ef_rm0 (mM : MethodId) (x0 : Int32) : entryFrame mM #[(.int x0)] maxLocals = mkF mM 0 #[.val (.int x0), .unset, .unset] [] := by first | (simp [entryFrame, mkF, argsToLocals, Value.category, maxLocals]; done) | rfl
def Q_rm0 (Z : State) (p1 : Int32) (u : Addr) (v : Addr) (w : Addr) (z : Addr) (h0 : Heap) (n0 : Nat) (vV : Option Value) (hH : Heap) (lA : List Loc) : Prop := vV = some (.int (1 : Int32)) ∧ Fr n0 lA
set_option maxRecDepth 65536 in
set_option maxHeartbeats 40000000 in
theorem rm0 (lL : Launch) (Z : State) (a0 : Array Value) (hw : ∀ d ∈ tables_1, d.before a0 Z = true) (ws : List Jvm.Cond) (p1 : Int32) (u : Addr) (v : Addr) (w : Addr) (z : Addr) (h0 : Heap) (n0 : Nat) (Z0 : n0 ≤ h0.size) (Su : Sta Z h0 "com/example/waldrapp/waldrapp/IntentState" "PENDING" "Lcom/example/waldrapp/waldrapp/IntentState;" (.ref u)) (Sv : Sta Z h0 "com/example/waldrapp/waldrapp/IntentState" "DELEGATED" "Lcom/example/waldrapp/waldrapp/IntentState;" (.ref v)) (Sw : Sta Z h0 "com/example/waldrapp/waldrapp/IntentState" "APPLIED" "Lcom/example/waldrapp/waldrapp/IntentState;" (.ref w)) (Sz : Sta Z h0 "com/example/waldrapp/waldrapp/IntentState" "REVERTED" "Lcom/example/waldrapp/waldrapp/IntentState;" (.ref z)) (Eu : Exa Z h0 u "com/example/waldrapp/waldrapp/IntentState") (Ev : Exa Z h0 v "com/example/waldrapp/waldrapp/IntentState") (Ew : Exa Z h0 w "com/example/waldrapp/waldrapp/IntentState") (Ez : Exa Z h0 z "com/example/waldrapp/waldrapp/IntentState") (nuv : u ≠ v) (nuw : u ≠ w) (nuz : u ≠ z) (nvw : v ≠ w) (nvz : v ≠ z) (nwz : w ≠ z) :
    MetFree lL x (head1 (Jvm.Cond.code x code maxLocals ret :: ws) room_1) (fun aA uU => aA = #[(.int p1)] ∧ Z.Warmed39 uU.vm ∧ uU.heap = h0) (fun _ _ _ _ _ => True) (fun _ uU oO uU' => ∃ vV lA, oO = .returned vV ∧ Q_rm0 Z p1 u v w z h0 n0 vV uU'.heap lA ∧ FrameEnd uU oO uU' lA room_1.cells room_1.slots) := by
  refine MetFree.of_bodySF (plainFor_of_name own_pn_com_example_waldrapp_waldrapp_IntentStateSettledPinLaw) hisR ?_
  intro pP eE sS mM args below meth cC s₁ Bd hml0 hP hK
  obtain ⟨rfl, hZ, hh⟩ := hP
  have hx := Bd.exec
  have hby := Bd.bytes
  have hml : cC.maxLocals = 3 := hml0
  have hown : sS.vm.findClass "com/example/waldrapp/waldrapp/IntentStateSettledPinLaw" = some mM.cls := findClass_of_methodNamed Bd.named
  have hnm := (name_of_methodNamed Bd.named Bd.method).1
  have X0 : Stand pP lL eE room_1 sS mM #[(.int p1)] below meth cC s₁ [] 0 0 := Stand.of_body Bd
  have e0 : s₁.heap = h0 := by rw [← hh, Bd.state]; rfl
  have N0 := Fr.nil n0
  have K0 := Keep.refl h0 ([] : List Addr)
  show own_Fin pP eE below (fun tT oO => ∃ vV lA, oO = .returned vV ∧ Q_rm0 Z p1 u v w z h0 n0 vV tT.heap lA ∧ FrameEnd sS oO tT lA room_1.cells room_1.slots) (s₁.setTop (entryFrame mM #[(.int p1)] maxLocals))
  refine own_fin (b := s₁.setTop (mkF mM 0 #[.val (.int p1), .unset, .unset] [])) (fun tT kK => castTop (own_ef_rm0 mM p1) kK) ?_
  refine own_fin (b := s₁.setTop (mkF mM 4 #[.val (.int p1), .val (.int (p1 &&& (3 : Int32))), .unset] [])) (fun tT kK => ?_) ?_
  · show Steps pP.tables eE below (s₁.setTop (mkF mM 0 #[.val (.int p1), .unset, .unset] [])) tT
    refine XS.iloadN X0.here hx rfl (Jvm.hb hby at_0) rfl ?_
    show Steps pP.tables eE below (s₁.setTop (mkF mM 1 #[.val (.int p1), .unset, .unset] [(.int p1)])) tT
    refine XS.iconst X0.here hx rfl (Jvm.hb hby at_1) ?_
    show Steps pP.tables eE below (s₁.setTop (mkF mM 2 #[.val (.int p1), .unset, .unset] [(.int (3 : Int32)), (.int p1)])) tT
    refine XS.iand X0.here hx rfl (Jvm.hb hby at_2) rfl ?_
    show Steps pP.tables eE below (s₁.setTop (mkF mM 3 #[.val (.int p1), .unset, .unset] [(.int (p1 &&& (3 : Int32)))])) tT
    refine XS.istoreN X0.here hx rfl (Jvm.hb hby at_3) rfl (l' := #[.val (.int p1), .val (.int (p1 &&& (3 : Int32))), .unset]) rfl ?_
    show Steps pP.tables eE below (s₁.setTop (mkF mM 4 #[.val (.int p1), .val (.int (p1 &&& (3 : Int32))), .unset] [])) tT
    exact kK
  show own_Fin pP eE below _ (s₁.setTop (mkF mM 4 #[.val (.int p1), .val (.int (p1 &&& (3 : Int32))), .unset] []))
  generalize hiv : (p1 &&& (3 : Int32)) = iv
  show own_Fin pP eE below _ (s₁.setTop (mkF mM 4 #[.val (.int p1), .val (.int iv), .unset] []))
  have hiw := own_and3 p1
  rw [hiv] at hiw
  clear hiv
  rcases hiw with rfl | rfl | rfl | rfl
  · show own_Fin pP eE below _ (s₁.setTop (mkF mM 4 #[.val (.int p1), .val (.int (0 : Int32)), .unset] []))
    refine own_fin (b := s₁.setTop (mkF mM 5 #[.val (.int p1), .val (.int (0 : Int32)), .unset] [(.int (0 : Int32))])) (fun tT kK => ?_) ?_
    · show Steps pP.tables eE below (s₁.setTop (mkF mM 4 #[.val (.int p1), .val (.int (0 : Int32)), .unset] [])) tT
      refine XS.iloadN X0.here hx rfl (Jvm.hb hby at_4) rfl ?_
      show Steps pP.tables eE below (s₁.setTop (mkF mM 5 #[.val (.int p1), .val (.int (0 : Int32)), .unset] [(.int (0 : Int32))])) tT
      exact kK
    obtain ⟨_, _, ⟨T1_, L1_, k1_, n1_⟩, -, X1_, ⟨Lc1_, hQ1_, l1_, y1_, z1_⟩, st1_⟩ := Jvm.LawKit.callS X0 hx (y := (⟨"com/example/waldrapp/waldrapp/IntentStateSettledPinLaw", "pick", "(I)Lcom/example/waldrapp/waldrapp/IntentState;"⟩ : MethodName)) hown (mvT hZ (hw _ (List.mem_of_getElem? (i := 0) rfl))) (mvT hZ (hw _ (List.mem_of_getElem? (i := 1) rfl))) (mvT hZ (hw _ (List.mem_of_getElem? (i := 2) rfl))) (mvT hZ (hw _ (List.mem_of_getElem? (i := 3) rfl))) (by decide) (backOf (W := 0) (rm_pick0 lL Z a0 hw [] u h0 n0 (Nat.le_trans Z0 K0.1) Su) hZ (hw _ (List.mem_of_getElem? (i := 3) rfl)) (hw _ (List.mem_of_getElem? (i := 2) rfl)) (by decide) (by decide)) (g := (mkF mM 5 #[.val (.int p1), .val (.int (0 : Int32)), .unset] [(.int (0 : Int32))])) rfl (by rw [hml]; rfl) (argsL := [(.int (0 : Int32))]) (rest := []) (lenOf own_pd0 rfl) rfl (by show 2 * 0 + _ ≤ _; exact Nat.le_of_eq rfl) (Jvm.hb hby at_5) (fun _ _ => ⟨rfl, e0, (by decide : 0 + 0 ≤ _), (by decide : 0 + 0 ≤ _)⟩)
    dsimp only [Pt.U, Pt.locs, Pt.cells, Pt.slots] at X1_ l1_ y1_ z1_ st1_ hQ1_
    subst l1_ y1_ z1_
    obtain ⟨rfl, N1_q, p1__0⟩ := hQ1_
    have N1_ := Fr.app N0 N1_q
    refine own_fin (fun tT kK => st1_ tT kK) ?_
    show own_Fin pP eE below _ (T1_.setTop (mkF mM 8 #[.val (.int p1), .val (.int (0 : Int32)), .unset] [(.ref u)]))
    refine own_fin (b := T1_.setTop (mkF mM 10 #[.val (.int p1), .val (.int (0 : Int32)), .val (.ref u)] [(.ref u)])) (fun tT kK => ?_) ?_
    · show Steps pP.tables eE below (T1_.setTop (mkF mM 8 #[.val (.int p1), .val (.int (0 : Int32)), .unset] [(.ref u)])) tT
      refine XS.astoreN X1_.here hx rfl (Jvm.hb hby at_8) rfl rfl (l' := #[.val (.int p1), .val (.int (0 : Int32)), .val (.ref u)]) rfl ?_
      show Steps pP.tables eE below (T1_.setTop (mkF mM 9 #[.val (.int p1), .val (.int (0 : Int32)), .val (.ref u)] [])) tT
      refine XS.aloadN X1_.here hx rfl (Jvm.hb hby at_9) rfl rfl ?_
      show Steps pP.tables eE below (T1_.setTop (mkF mM 10 #[.val (.int p1), .val (.int (0 : Int32)), .val (.ref u)] [(.ref u)])) tT
      exact kK
    obtain ⟨cq2_, kq2_, q2_a, q2_b, q2_c⟩ := isOf hZ p1__0 Eu
    obtain ⟨_, _, ⟨T2_, L2_, k2_, n2_⟩, -, X2_, ⟨Lc2_, hQ2_, l2_, y2_, z2_⟩, st2_⟩ := X1_.virtualBack hx (y := (⟨"com/example/waldrapp/waldrapp/IntentState", "settled", "()Z"⟩ : MethodName)) (z := (⟨"com/example/waldrapp/waldrapp/IntentState", "settled", "()Z"⟩ : MethodName)) hown (mvT hZ (hw _ (List.mem_of_getElem? (i := 7) rfl))) (mvT hZ (hw _ (List.mem_of_getElem? (i := 8) rfl))) (notFace_of_selects (args := #[]) (mvT hZ (hw _ (List.mem_of_getElem? (i := 10) rfl)))) (mvT hZ (hw _ (List.mem_of_getElem? (i := 10) rfl))) (mvT hZ (hw _ (List.mem_of_getElem? (i := 9) rfl))) (by decide) (backOf (W := 0) (rm_setN lL Z a0 hw [] u w z h0 n0 (Nat.le_trans Z0 K0.1) Sw Sz nuw nuz) hZ (hw _ (List.mem_of_getElem? (i := 11) rfl)) (hw _ (List.mem_of_getElem? (i := 5) rfl)) (by decide) (by decide)) q2_a q2_c (g := (mkF mM 10 #[.val (.int p1), .val (.int (0 : Int32)), .val (.ref u)] [(.ref u)])) rfl (by rw [hml]; rfl) (Steps.refl _) (argsL := []) (rest := []) (lenOf own_pd1 rfl) rfl (by show 2 * 0 + _ ≤ _; exact Nat.le_of_eq rfl) (Jvm.hb hby at_10) (fun _ _ => ⟨rfl, p1__0, (by decide : 0 + 0 ≤ _), (by decide : 0 + 0 ≤ _)⟩)
    dsimp only [Pt.U, Pt.locs, Pt.cells, Pt.slots] at X2_ l2_ y2_ z2_ st2_ hQ2_
    subst l2_ y2_ z2_
    obtain ⟨rfl, N2_q, p2__0⟩ := hQ2_
    have N2_ := Fr.app N1_ N2_q
    refine own_fin (fun tT kK => st2_.trans kK) ?_
    show own_Fin pP eE below _ (T2_.setTop (mkF mM 13 #[.val (.int p1), .val (.int (0 : Int32)), .val (.ref u)] [(.int (0 : Int32))]))
    refine own_fin (b := T2_.setTop (mkF mM 14 #[.val (.int p1), .val (.int (0 : Int32)), .val (.ref u)] [(.int (0 : Int32)), (.int (0 : Int32))])) (fun tT kK => ?_) ?_
    · show Steps pP.tables eE below (T2_.setTop (mkF mM 13 #[.val (.int p1), .val (.int (0 : Int32)), .val (.ref u)] [(.int (0 : Int32))])) tT
      refine XS.iloadN X2_.here hx rfl (Jvm.hb hby at_13) rfl ?_
      show Steps pP.tables eE below (T2_.setTop (mkF mM 14 #[.val (.int p1), .val (.int (0 : Int32)), .val (.ref u)] [(.int (0 : Int32)), (.int (0 : Int32))])) tT
      exact kK
    obtain ⟨_, _, ⟨T3_, L3_, k3_, n3_⟩, -, X3_, ⟨Lc3_, hQ3_, l3_, y3_, z3_⟩, st3_⟩ := Jvm.LawKit.callS X2_ hx (y := (⟨"com/example/waldrapp/waldrapp/IntentStateSettledPinLaw", "expected", "(I)Z"⟩ : MethodName)) hown (mvT hZ (hw _ (List.mem_of_getElem? (i := 16) rfl))) (mvT hZ (hw _ (List.mem_of_getElem? (i := 17) rfl))) (mvT hZ (hw _ (List.mem_of_getElem? (i := 2) rfl))) (mvT hZ (hw _ (List.mem_of_getElem? (i := 18) rfl))) (by decide) (backOf (W := 1) (rm_exp0 lL Z a0 hw []  h0 n0 (Nat.le_trans Z0 K0.1) ) hZ (hw _ (List.mem_of_getElem? (i := 18) rfl)) (hw _ (List.mem_of_getElem? (i := 2) rfl)) (by decide) (by decide)) (g := (mkF mM 14 #[.val (.int p1), .val (.int (0 : Int32)), .val (.ref u)] [(.int (0 : Int32)), (.int (0 : Int32))])) rfl (by rw [hml]; rfl) (argsL := [(.int (0 : Int32))]) (rest := [(.int (0 : Int32))]) (lenOf own_pd2 rfl) rfl (by show 2 * 0 + _ ≤ _; exact Nat.le_of_eq rfl) (Jvm.hb hby at_14) (fun _ _ => ⟨rfl, p2__0, (by decide : 0 + 0 ≤ _), (by decide : 0 + 0 ≤ _)⟩)
    dsimp only [Pt.U, Pt.locs, Pt.cells, Pt.slots] at X3_ l3_ y3_ z3_ st3_ hQ3_
    subst l3_ y3_ z3_
    obtain ⟨rfl, N3_q, p3__0⟩ := hQ3_
    have N3_ := Fr.app N2_ N3_q
    refine own_fin (fun tT kK => st3_ tT kK) ?_
    show own_Fin pP eE below _ (T3_.setTop (mkF mM 17 #[.val (.int p1), .val (.int (0 : Int32)), .val (.ref u)] [(.int (0 : Int32)), (.int (0 : Int32))]))
    refine own_fin (b := T3_.setTop (mkF mM 25 #[.val (.int p1), .val (.int (0 : Int32)), .val (.ref u)] [(.int (1 : Int32))])) (fun tT kK => ?_) ?_
    · show Steps pP.tables eE below (T3_.setTop (mkF mM 17 #[.val (.int p1), .val (.int (0 : Int32)), .val (.ref u)] [(.int (0 : Int32)), (.int (0 : Int32))])) tT
      refine XS.icmpNo X3_.here hx rfl (Jvm.hb hby at_17) rfl (teq ((by decide) : (0 : Int32) = (0 : Int32))).2 ?_
      show Steps pP.tables eE below (T3_.setTop (mkF mM 20 #[.val (.int p1), .val (.int (0 : Int32)), .val (.ref u)] [])) tT
      refine XS.iconst X3_.here hx rfl (Jvm.hb hby at_20) ?_
      show Steps pP.tables eE below (T3_.setTop (mkF mM 21 #[.val (.int p1), .val (.int (0 : Int32)), .val (.ref u)] [(.int (1 : Int32))])) tT
      refine XS.goto X3_.here hx rfl (pc0 := 21) (pc' := 25) rfl (Jvm.hb hby at_21) (by decide) (by decide) ?_
      show Steps pP.tables eE below (T3_.setTop (mkF mM 25 #[.val (.int p1), .val (.int (0 : Int32)), .val (.ref u)] [(.int (1 : Int32))])) tT
      exact kK
    obtain ⟨fs, hr, hrun, hended, hW, hsame⟩ := X3_.leave (v := some (.int (1 : Int32))) (fun h => by rw [Bd.returns] at h; cases h)
    refine ⟨_, _, ?_, hrun, hended, _, _, rfl, ?_, ⟨_, rfl⟩, hW, hsame.mono (by decide) (by decide)⟩
    · show Steps pP.tables eE below (T3_.setTop (mkF mM 25 #[.val (.int p1), .val (.int (0 : Int32)), .val (.ref u)] [(.int (1 : Int32))])) _
      exact retN X3_ hx (t := .boolean) Bd.returns (by simp) (Jvm.hb hby at_25) hr
    · show Q_rm0 Z p1 u v w z h0 n0 _ T3_.heap _
      rw [p3__0]
      exact ⟨rfl, N3_⟩
  · show own_Fin pP eE below _ (s₁.setTop (mkF mM 4 #[.val (.int p1), .val (.int (1 : Int32)), .unset] []))
    refine own_fin (b := s₁.setTop (mkF mM 5 #[.val (.int p1), .val (.int (1 : Int32)), .unset] [(.int (1 : Int32))])) (fun tT kK => ?_) ?_
    · show Steps pP.tables eE below (s₁.setTop (mkF mM 4 #[.val (.int p1), .val (.int (1 : Int32)), .unset] [])) tT
      refine XS.iloadN X0.here hx rfl (Jvm.hb hby at_4) rfl ?_
      show Steps pP.tables eE below (s₁.setTop (mkF mM 5 #[.val (.int p1), .val (.int (1 : Int32)), .unset] [(.int (1 : Int32))])) tT
      exact kK
    obtain ⟨_, _, ⟨T4_, L4_, k4_, n4_⟩, -, X4_, ⟨Lc4_, hQ4_, l4_, y4_, z4_⟩, st4_⟩ := Jvm.LawKit.callS X0 hx (y := (⟨"com/example/waldrapp/waldrapp/IntentStateSettledPinLaw", "pick", "(I)Lcom/example/waldrapp/waldrapp/IntentState;"⟩ : MethodName)) hown (mvT hZ (hw _ (List.mem_of_getElem? (i := 0) rfl))) (mvT hZ (hw _ (List.mem_of_getElem? (i := 1) rfl))) (mvT hZ (hw _ (List.mem_of_getElem? (i := 2) rfl))) (mvT hZ (hw _ (List.mem_of_getElem? (i := 3) rfl))) (by decide) (backOf (W := 0) (rm_pick1 lL Z a0 hw [] v h0 n0 (Nat.le_trans Z0 K0.1) Sv) hZ (hw _ (List.mem_of_getElem? (i := 3) rfl)) (hw _ (List.mem_of_getElem? (i := 2) rfl)) (by decide) (by decide)) (g := (mkF mM 5 #[.val (.int p1), .val (.int (1 : Int32)), .unset] [(.int (1 : Int32))])) rfl (by rw [hml]; rfl) (argsL := [(.int (1 : Int32))]) (rest := []) (lenOf own_pd0 rfl) rfl (by show 2 * 0 + _ ≤ _; exact Nat.le_of_eq rfl) (Jvm.hb hby at_5) (fun _ _ => ⟨rfl, e0, (by decide : 0 + 0 ≤ _), (by decide : 0 + 0 ≤ _)⟩)
    dsimp only [Pt.U, Pt.locs, Pt.cells, Pt.slots] at X4_ l4_ y4_ z4_ st4_ hQ4_
    subst l4_ y4_ z4_
    obtain ⟨rfl, N4_q, p4__0⟩ := hQ4_
    have N4_ := Fr.app N0 N4_q
    refine own_fin (fun tT kK => st4_ tT kK) ?_
    show own_Fin pP eE below _ (T4_.setTop (mkF mM 8 #[.val (.int p1), .val (.int (1 : Int32)), .unset] [(.ref v)]))
    refine own_fin (b := T4_.setTop (mkF mM 10 #[.val (.int p1), .val (.int (1 : Int32)), .val (.ref v)] [(.ref v)])) (fun tT kK => ?_) ?_
    · show Steps pP.tables eE below (T4_.setTop (mkF mM 8 #[.val (.int p1), .val (.int (1 : Int32)), .unset] [(.ref v)])) tT
      refine XS.astoreN X4_.here hx rfl (Jvm.hb hby at_8) rfl rfl (l' := #[.val (.int p1), .val (.int (1 : Int32)), .val (.ref v)]) rfl ?_
      show Steps pP.tables eE below (T4_.setTop (mkF mM 9 #[.val (.int p1), .val (.int (1 : Int32)), .val (.ref v)] [])) tT
      refine XS.aloadN X4_.here hx rfl (Jvm.hb hby at_9) rfl rfl ?_
      show Steps pP.tables eE below (T4_.setTop (mkF mM 10 #[.val (.int p1), .val (.int (1 : Int32)), .val (.ref v)] [(.ref v)])) tT
      exact kK
    obtain ⟨cq5_, kq5_, q5_a, q5_b, q5_c⟩ := isOf hZ p4__0 Ev
    obtain ⟨_, _, ⟨T5_, L5_, k5_, n5_⟩, -, X5_, ⟨Lc5_, hQ5_, l5_, y5_, z5_⟩, st5_⟩ := X4_.virtualBack hx (y := (⟨"com/example/waldrapp/waldrapp/IntentState", "settled", "()Z"⟩ : MethodName)) (z := (⟨"com/example/waldrapp/waldrapp/IntentState", "settled", "()Z"⟩ : MethodName)) hown (mvT hZ (hw _ (List.mem_of_getElem? (i := 7) rfl))) (mvT hZ (hw _ (List.mem_of_getElem? (i := 8) rfl))) (notFace_of_selects (args := #[]) (mvT hZ (hw _ (List.mem_of_getElem? (i := 10) rfl)))) (mvT hZ (hw _ (List.mem_of_getElem? (i := 10) rfl))) (mvT hZ (hw _ (List.mem_of_getElem? (i := 9) rfl))) (by decide) (backOf (W := 0) (rm_setN lL Z a0 hw [] v w z h0 n0 (Nat.le_trans Z0 K0.1) Sw Sz nvw nvz) hZ (hw _ (List.mem_of_getElem? (i := 11) rfl)) (hw _ (List.mem_of_getElem? (i := 5) rfl)) (by decide) (by decide)) q5_a q5_c (g := (mkF mM 10 #[.val (.int p1), .val (.int (1 : Int32)), .val (.ref v)] [(.ref v)])) rfl (by rw [hml]; rfl) (Steps.refl _) (argsL := []) (rest := []) (lenOf own_pd1 rfl) rfl (by show 2 * 0 + _ ≤ _; exact Nat.le_of_eq rfl) (Jvm.hb hby at_10) (fun _ _ => ⟨rfl, p4__0, (by decide : 0 + 0 ≤ _), (by decide : 0 + 0 ≤ _)⟩)
    dsimp only [Pt.U, Pt.locs, Pt.cells, Pt.slots] at X5_ l5_ y5_ z5_ st5_ hQ5_
    subst l5_ y5_ z5_
    obtain ⟨rfl, N5_q, p5__0⟩ := hQ5_
    have N5_ := Fr.app N4_ N5_q
    refine own_fin (fun tT kK => st5_.trans kK) ?_
    show own_Fin pP eE below _ (T5_.setTop (mkF mM 13 #[.val (.int p1), .val (.int (1 : Int32)), .val (.ref v)] [(.int (0 : Int32))]))
    refine own_fin (b := T5_.setTop (mkF mM 14 #[.val (.int p1), .val (.int (1 : Int32)), .val (.ref v)] [(.int (1 : Int32)), (.int (0 : Int32))])) (fun tT kK => ?_) ?_
    · show Steps pP.tables eE below (T5_.setTop (mkF mM 13 #[.val (.int p1), .val (.int (1 : Int32)), .val (.ref v)] [(.int (0 : Int32))])) tT
      refine XS.iloadN X5_.here hx rfl (Jvm.hb hby at_13) rfl ?_
      show Steps pP.tables eE below (T5_.setTop (mkF mM 14 #[.val (.int p1), .val (.int (1 : Int32)), .val (.ref v)] [(.int (1 : Int32)), (.int (0 : Int32))])) tT
      exact kK
    obtain ⟨_, _, ⟨T6_, L6_, k6_, n6_⟩, -, X6_, ⟨Lc6_, hQ6_, l6_, y6_, z6_⟩, st6_⟩ := Jvm.LawKit.callS X5_ hx (y := (⟨"com/example/waldrapp/waldrapp/IntentStateSettledPinLaw", "expected", "(I)Z"⟩ : MethodName)) hown (mvT hZ (hw _ (List.mem_of_getElem? (i := 16) rfl))) (mvT hZ (hw _ (List.mem_of_getElem? (i := 17) rfl))) (mvT hZ (hw _ (List.mem_of_getElem? (i := 2) rfl))) (mvT hZ (hw _ (List.mem_of_getElem? (i := 18) rfl))) (by decide) (backOf (W := 1) (rm_exp1 lL Z a0 hw []  h0 n0 (Nat.le_trans Z0 K0.1) ) hZ (hw _ (List.mem_of_getElem? (i := 18) rfl)) (hw _ (List.mem_of_getElem? (i := 2) rfl)) (by decide) (by decide)) (g := (mkF mM 14 #[.val (.int p1), .val (.int (1 : Int32)), .val (.ref v)] [(.int (1 : Int32)), (.int (0 : Int32))])) rfl (by rw [hml]; rfl) (argsL := [(.int (1 : Int32))]) (rest := [(.int (0 : Int32))]) (lenOf own_pd2 rfl) rfl (by show 2 * 0 + _ ≤ _; exact Nat.le_of_eq rfl) (Jvm.hb hby at_14) (fun _ _ => ⟨rfl, p5__0, (by decide : 0 + 0 ≤ _), (by decide : 0 + 0 ≤ _)⟩)
    dsimp only [Pt.U, Pt.locs, Pt.cells, Pt.slots] at X6_ l6_ y6_ z6_ st6_ hQ6_
    subst l6_ y6_ z6_
    obtain ⟨rfl, N6_q, p6__0⟩ := hQ6_
    have N6_ := Fr.app N5_ N6_q
    refine own_fin (fun tT kK => st6_ tT kK) ?_
    show own_Fin pP eE below _ (T6_.setTop (mkF mM 17 #[.val (.int p1), .val (.int (1 : Int32)), .val (.ref v)] [(.int (0 : Int32)), (.int (0 : Int32))]))
    refine own_fin (b := T6_.setTop (mkF mM 25 #[.val (.int p1), .val (.int (1 : Int32)), .val (.ref v)] [(.int (1 : Int32))])) (fun tT kK => ?_) ?_
    · show Steps pP.tables eE below (T6_.setTop (mkF mM 17 #[.val (.int p1), .val (.int (1 : Int32)), .val (.ref v)] [(.int (0 : Int32)), (.int (0 : Int32))])) tT
      refine XS.icmpNo X6_.here hx rfl (Jvm.hb hby at_17) rfl (teq ((by decide) : (0 : Int32) = (0 : Int32))).2 ?_
      show Steps pP.tables eE below (T6_.setTop (mkF mM 20 #[.val (.int p1), .val (.int (1 : Int32)), .val (.ref v)] [])) tT
      refine XS.iconst X6_.here hx rfl (Jvm.hb hby at_20) ?_
      show Steps pP.tables eE below (T6_.setTop (mkF mM 21 #[.val (.int p1), .val (.int (1 : Int32)), .val (.ref v)] [(.int (1 : Int32))])) tT
      refine XS.goto X6_.here hx rfl (pc0 := 21) (pc' := 25) rfl (Jvm.hb hby at_21) (by decide) (by decide) ?_
      show Steps pP.tables eE below (T6_.setTop (mkF mM 25 #[.val (.int p1), .val (.int (1 : Int32)), .val (.ref v)] [(.int (1 : Int32))])) tT
      exact kK
    obtain ⟨fs, hr, hrun, hended, hW, hsame⟩ := X6_.leave (v := some (.int (1 : Int32))) (fun h => by rw [Bd.returns] at h; cases h)
    refine ⟨_, _, ?_, hrun, hended, _, _, rfl, ?_, ⟨_, rfl⟩, hW, hsame.mono (by decide) (by decide)⟩
    · show Steps pP.tables eE below (T6_.setTop (mkF mM 25 #[.val (.int p1), .val (.int (1 : Int32)), .val (.ref v)] [(.int (1 : Int32))])) _
      exact retN X6_ hx (t := .boolean) Bd.returns (by simp) (Jvm.hb hby at_25) hr
    · show Q_rm0 Z p1 u v w z h0 n0 _ T6_.heap _
      rw [p6__0]
      exact ⟨rfl, N6_⟩
  · show own_Fin pP eE below _ (s₁.setTop (mkF mM 4 #[.val (.int p1), .val (.int (2 : Int32)), .unset] []))
    refine own_fin (b := s₁.setTop (mkF mM 5 #[.val (.int p1), .val (.int (2 : Int32)), .unset] [(.int (2 : Int32))])) (fun tT kK => ?_) ?_
    · show Steps pP.tables eE below (s₁.setTop (mkF mM 4 #[.val (.int p1), .val (.int (2 : Int32)), .unset] [])) tT
      refine XS.iloadN X0.here hx rfl (Jvm.hb hby at_4) rfl ?_
      show Steps pP.tables eE below (s₁.setTop (mkF mM 5 #[.val (.int p1), .val (.int (2 : Int32)), .unset] [(.int (2 : Int32))])) tT
      exact kK
    obtain ⟨_, _, ⟨T7_, L7_, k7_, n7_⟩, -, X7_, ⟨Lc7_, hQ7_, l7_, y7_, z7_⟩, st7_⟩ := Jvm.LawKit.callS X0 hx (y := (⟨"com/example/waldrapp/waldrapp/IntentStateSettledPinLaw", "pick", "(I)Lcom/example/waldrapp/waldrapp/IntentState;"⟩ : MethodName)) hown (mvT hZ (hw _ (List.mem_of_getElem? (i := 0) rfl))) (mvT hZ (hw _ (List.mem_of_getElem? (i := 1) rfl))) (mvT hZ (hw _ (List.mem_of_getElem? (i := 2) rfl))) (mvT hZ (hw _ (List.mem_of_getElem? (i := 3) rfl))) (by decide) (backOf (W := 0) (rm_pick2 lL Z a0 hw [] w h0 n0 (Nat.le_trans Z0 K0.1) Sw) hZ (hw _ (List.mem_of_getElem? (i := 3) rfl)) (hw _ (List.mem_of_getElem? (i := 2) rfl)) (by decide) (by decide)) (g := (mkF mM 5 #[.val (.int p1), .val (.int (2 : Int32)), .unset] [(.int (2 : Int32))])) rfl (by rw [hml]; rfl) (argsL := [(.int (2 : Int32))]) (rest := []) (lenOf own_pd0 rfl) rfl (by show 2 * 0 + _ ≤ _; exact Nat.le_of_eq rfl) (Jvm.hb hby at_5) (fun _ _ => ⟨rfl, e0, (by decide : 0 + 0 ≤ _), (by decide : 0 + 0 ≤ _)⟩)
    dsimp only [Pt.U, Pt.locs, Pt.cells, Pt.slots] at X7_ l7_ y7_ z7_ st7_ hQ7_
    subst l7_ y7_ z7_
    obtain ⟨rfl, N7_q, p7__0⟩ := hQ7_
    have N7_ := Fr.app N0 N7_q
    refine own_fin (fun tT kK => st7_ tT kK) ?_
    show own_Fin pP eE below _ (T7_.setTop (mkF mM 8 #[.val (.int p1), .val (.int (2 : Int32)), .unset] [(.ref w)]))
    refine own_fin (b := T7_.setTop (mkF mM 10 #[.val (.int p1), .val (.int (2 : Int32)), .val (.ref w)] [(.ref w)])) (fun tT kK => ?_) ?_
    · show Steps pP.tables eE below (T7_.setTop (mkF mM 8 #[.val (.int p1), .val (.int (2 : Int32)), .unset] [(.ref w)])) tT
      refine XS.astoreN X7_.here hx rfl (Jvm.hb hby at_8) rfl rfl (l' := #[.val (.int p1), .val (.int (2 : Int32)), .val (.ref w)]) rfl ?_
      show Steps pP.tables eE below (T7_.setTop (mkF mM 9 #[.val (.int p1), .val (.int (2 : Int32)), .val (.ref w)] [])) tT
      refine XS.aloadN X7_.here hx rfl (Jvm.hb hby at_9) rfl rfl ?_
      show Steps pP.tables eE below (T7_.setTop (mkF mM 10 #[.val (.int p1), .val (.int (2 : Int32)), .val (.ref w)] [(.ref w)])) tT
      exact kK
    obtain ⟨cq8_, kq8_, q8_a, q8_b, q8_c⟩ := isOf hZ p7__0 Ew
    obtain ⟨_, _, ⟨T8_, L8_, k8_, n8_⟩, -, X8_, ⟨Lc8_, hQ8_, l8_, y8_, z8_⟩, st8_⟩ := X7_.virtualBack hx (y := (⟨"com/example/waldrapp/waldrapp/IntentState", "settled", "()Z"⟩ : MethodName)) (z := (⟨"com/example/waldrapp/waldrapp/IntentState", "settled", "()Z"⟩ : MethodName)) hown (mvT hZ (hw _ (List.mem_of_getElem? (i := 7) rfl))) (mvT hZ (hw _ (List.mem_of_getElem? (i := 8) rfl))) (notFace_of_selects (args := #[]) (mvT hZ (hw _ (List.mem_of_getElem? (i := 10) rfl)))) (mvT hZ (hw _ (List.mem_of_getElem? (i := 10) rfl))) (mvT hZ (hw _ (List.mem_of_getElem? (i := 9) rfl))) (by decide) (backOf (W := 0) (rm_setA lL Z a0 hw [] w h0 n0 (Nat.le_trans Z0 K0.1) Sw) hZ (hw _ (List.mem_of_getElem? (i := 11) rfl)) (hw _ (List.mem_of_getElem? (i := 5) rfl)) (by decide) (by decide)) q8_a q8_c (g := (mkF mM 10 #[.val (.int p1), .val (.int (2 : Int32)), .val (.ref w)] [(.ref w)])) rfl (by rw [hml]; rfl) (Steps.refl _) (argsL := []) (rest := []) (lenOf own_pd1 rfl) rfl (by show 2 * 0 + _ ≤ _; exact Nat.le_of_eq rfl) (Jvm.hb hby at_10) (fun _ _ => ⟨rfl, p7__0, (by decide : 0 + 0 ≤ _), (by decide : 0 + 0 ≤ _)⟩)
    dsimp only [Pt.U, Pt.locs, Pt.cells, Pt.slots] at X8_ l8_ y8_ z8_ st8_ hQ8_
    subst l8_ y8_ z8_
    obtain ⟨rfl, N8_q, p8__0⟩ := hQ8_
    have N8_ := Fr.app N7_ N8_q
    refine own_fin (fun tT kK => st8_.trans kK) ?_
    show own_Fin pP eE below _ (T8_.setTop (mkF mM 13 #[.val (.int p1), .val (.int (2 : Int32)), .val (.ref w)] [(.int (1 : Int32))]))
    refine own_fin (b := T8_.setTop (mkF mM 14 #[.val (.int p1), .val (.int (2 : Int32)), .val (.ref w)] [(.int (2 : Int32)), (.int (1 : Int32))])) (fun tT kK => ?_) ?_
    · show Steps pP.tables eE below (T8_.setTop (mkF mM 13 #[.val (.int p1), .val (.int (2 : Int32)), .val (.ref w)] [(.int (1 : Int32))])) tT
      refine XS.iloadN X8_.here hx rfl (Jvm.hb hby at_13) rfl ?_
      show Steps pP.tables eE below (T8_.setTop (mkF mM 14 #[.val (.int p1), .val (.int (2 : Int32)), .val (.ref w)] [(.int (2 : Int32)), (.int (1 : Int32))])) tT
      exact kK
    obtain ⟨_, _, ⟨T9_, L9_, k9_, n9_⟩, -, X9_, ⟨Lc9_, hQ9_, l9_, y9_, z9_⟩, st9_⟩ := Jvm.LawKit.callS X8_ hx (y := (⟨"com/example/waldrapp/waldrapp/IntentStateSettledPinLaw", "expected", "(I)Z"⟩ : MethodName)) hown (mvT hZ (hw _ (List.mem_of_getElem? (i := 16) rfl))) (mvT hZ (hw _ (List.mem_of_getElem? (i := 17) rfl))) (mvT hZ (hw _ (List.mem_of_getElem? (i := 2) rfl))) (mvT hZ (hw _ (List.mem_of_getElem? (i := 18) rfl))) (by decide) (backOf (W := 1) (rm_exp2 lL Z a0 hw []  h0 n0 (Nat.le_trans Z0 K0.1) ) hZ (hw _ (List.mem_of_getElem? (i := 18) rfl)) (hw _ (List.mem_of_getElem? (i := 2) rfl)) (by decide) (by decide)) (g := (mkF mM 14 #[.val (.int p1), .val (.int (2 : Int32)), .val (.ref w)] [(.int (2 : Int32)), (.int (1 : Int32))])) rfl (by rw [hml]; rfl) (argsL := [(.int (2 : Int32))]) (rest := [(.int (1 : Int32))]) (lenOf own_pd2 rfl) rfl (by show 2 * 0 + _ ≤ _; exact Nat.le_of_eq rfl) (Jvm.hb hby at_14) (fun _ _ => ⟨rfl, p8__0, (by decide : 0 + 0 ≤ _), (by decide : 0 + 0 ≤ _)⟩)
    dsimp only [Pt.U, Pt.locs, Pt.cells, Pt.slots] at X9_ l9_ y9_ z9_ st9_ hQ9_
    subst l9_ y9_ z9_
    obtain ⟨rfl, N9_q, p9__0⟩ := hQ9_
    have N9_ := Fr.app N8_ N9_q
    refine own_fin (fun tT kK => st9_ tT kK) ?_
    show own_Fin pP eE below _ (T9_.setTop (mkF mM 17 #[.val (.int p1), .val (.int (2 : Int32)), .val (.ref w)] [(.int (1 : Int32)), (.int (1 : Int32))]))
    refine own_fin (b := T9_.setTop (mkF mM 25 #[.val (.int p1), .val (.int (2 : Int32)), .val (.ref w)] [(.int (1 : Int32))])) (fun tT kK => ?_) ?_
    · show Steps pP.tables eE below (T9_.setTop (mkF mM 17 #[.val (.int p1), .val (.int (2 : Int32)), .val (.ref w)] [(.int (1 : Int32)), (.int (1 : Int32))])) tT
      refine XS.icmpNo X9_.here hx rfl (Jvm.hb hby at_17) rfl (teq ((by decide) : (1 : Int32) = (1 : Int32))).2 ?_
      show Steps pP.tables eE below (T9_.setTop (mkF mM 20 #[.val (.int p1), .val (.int (2 : Int32)), .val (.ref w)] [])) tT
      refine XS.iconst X9_.here hx rfl (Jvm.hb hby at_20) ?_
      show Steps pP.tables eE below (T9_.setTop (mkF mM 21 #[.val (.int p1), .val (.int (2 : Int32)), .val (.ref w)] [(.int (1 : Int32))])) tT
      refine XS.goto X9_.here hx rfl (pc0 := 21) (pc' := 25) rfl (Jvm.hb hby at_21) (by decide) (by decide) ?_
      show Steps pP.tables eE below (T9_.setTop (mkF mM 25 #[.val (.int p1), .val (.int (2 : Int32)), .val (.ref w)] [(.int (1 : Int32))])) tT
      exact kK
    obtain ⟨fs, hr, hrun, hended, hW, hsame⟩ := X9_.leave (v := some (.int (1 : Int32))) (fun h => by rw [Bd.returns] at h; cases h)
    refine ⟨_, _, ?_, hrun, hended, _, _, rfl, ?_, ⟨_, rfl⟩, hW, hsame.mono (by decide) (by decide)⟩
    · show Steps pP.tables eE below (T9_.setTop (mkF mM 25 #[.val (.int p1), .val (.int (2 : Int32)), .val (.ref w)] [(.int (1 : Int32))])) _
      exact retN X9_ hx (t := .boolean) Bd.returns (by simp) (Jvm.hb hby at_25) hr
    · show Q_rm0 Z p1 u v w z h0 n0 _ T9_.heap _
      rw [p9__0]
      exact ⟨rfl, N9_⟩
  · show own_Fin pP eE below _ (s₁.setTop (mkF mM 4 #[.val (.int p1), .val (.int (3 : Int32)), .unset] []))
    refine own_fin (b := s₁.setTop (mkF mM 5 #[.val (.int p1), .val (.int (3 : Int32)), .unset] [(.int (3 : Int32))])) (fun tT kK => ?_) ?_
    · show Steps pP.tables eE below (s₁.setTop (mkF mM 4 #[.val (.int p1), .val (.int (3 : Int32)), .unset] [])) tT
      refine XS.iloadN X0.here hx rfl (Jvm.hb hby at_4) rfl ?_
      show Steps pP.tables eE below (s₁.setTop (mkF mM 5 #[.val (.int p1), .val (.int (3 : Int32)), .unset] [(.int (3 : Int32))])) tT
      exact kK
    obtain ⟨_, _, ⟨T10_, L10_, k10_, n10_⟩, -, X10_, ⟨Lc10_, hQ10_, l10_, y10_, z10_⟩, st10_⟩ := Jvm.LawKit.callS X0 hx (y := (⟨"com/example/waldrapp/waldrapp/IntentStateSettledPinLaw", "pick", "(I)Lcom/example/waldrapp/waldrapp/IntentState;"⟩ : MethodName)) hown (mvT hZ (hw _ (List.mem_of_getElem? (i := 0) rfl))) (mvT hZ (hw _ (List.mem_of_getElem? (i := 1) rfl))) (mvT hZ (hw _ (List.mem_of_getElem? (i := 2) rfl))) (mvT hZ (hw _ (List.mem_of_getElem? (i := 3) rfl))) (by decide) (backOf (W := 0) (rm_pick3 lL Z a0 hw [] z h0 n0 (Nat.le_trans Z0 K0.1) Sz) hZ (hw _ (List.mem_of_getElem? (i := 3) rfl)) (hw _ (List.mem_of_getElem? (i := 2) rfl)) (by decide) (by decide)) (g := (mkF mM 5 #[.val (.int p1), .val (.int (3 : Int32)), .unset] [(.int (3 : Int32))])) rfl (by rw [hml]; rfl) (argsL := [(.int (3 : Int32))]) (rest := []) (lenOf own_pd0 rfl) rfl (by show 2 * 0 + _ ≤ _; exact Nat.le_of_eq rfl) (Jvm.hb hby at_5) (fun _ _ => ⟨rfl, e0, (by decide : 0 + 0 ≤ _), (by decide : 0 + 0 ≤ _)⟩)
    dsimp only [Pt.U, Pt.locs, Pt.cells, Pt.slots] at X10_ l10_ y10_ z10_ st10_ hQ10_
    subst l10_ y10_ z10_
    obtain ⟨rfl, N10_q, p10__0⟩ := hQ10_
    have N10_ := Fr.app N0 N10_q
    refine own_fin (fun tT kK => st10_ tT kK) ?_
    show own_Fin pP eE below _ (T10_.setTop (mkF mM 8 #[.val (.int p1), .val (.int (3 : Int32)), .unset] [(.ref z)]))
    refine own_fin (b := T10_.setTop (mkF mM 10 #[.val (.int p1), .val (.int (3 : Int32)), .val (.ref z)] [(.ref z)])) (fun tT kK => ?_) ?_
    · show Steps pP.tables eE below (T10_.setTop (mkF mM 8 #[.val (.int p1), .val (.int (3 : Int32)), .unset] [(.ref z)])) tT
      refine XS.astoreN X10_.here hx rfl (Jvm.hb hby at_8) rfl rfl (l' := #[.val (.int p1), .val (.int (3 : Int32)), .val (.ref z)]) rfl ?_
      show Steps pP.tables eE below (T10_.setTop (mkF mM 9 #[.val (.int p1), .val (.int (3 : Int32)), .val (.ref z)] [])) tT
      refine XS.aloadN X10_.here hx rfl (Jvm.hb hby at_9) rfl rfl ?_
      show Steps pP.tables eE below (T10_.setTop (mkF mM 10 #[.val (.int p1), .val (.int (3 : Int32)), .val (.ref z)] [(.ref z)])) tT
      exact kK
    obtain ⟨cq11_, kq11_, q11_a, q11_b, q11_c⟩ := isOf hZ p10__0 Ez
    obtain ⟨_, _, ⟨T11_, L11_, k11_, n11_⟩, -, X11_, ⟨Lc11_, hQ11_, l11_, y11_, z11_⟩, st11_⟩ := X10_.virtualBack hx (y := (⟨"com/example/waldrapp/waldrapp/IntentState", "settled", "()Z"⟩ : MethodName)) (z := (⟨"com/example/waldrapp/waldrapp/IntentState", "settled", "()Z"⟩ : MethodName)) hown (mvT hZ (hw _ (List.mem_of_getElem? (i := 7) rfl))) (mvT hZ (hw _ (List.mem_of_getElem? (i := 8) rfl))) (notFace_of_selects (args := #[]) (mvT hZ (hw _ (List.mem_of_getElem? (i := 10) rfl)))) (mvT hZ (hw _ (List.mem_of_getElem? (i := 10) rfl))) (mvT hZ (hw _ (List.mem_of_getElem? (i := 9) rfl))) (by decide) (backOf (W := 0) (rm_setR lL Z a0 hw [] z w h0 n0 (Nat.le_trans Z0 K0.1) Sw Sz (Ne.symm nwz)) hZ (hw _ (List.mem_of_getElem? (i := 11) rfl)) (hw _ (List.mem_of_getElem? (i := 5) rfl)) (by decide) (by decide)) q11_a q11_c (g := (mkF mM 10 #[.val (.int p1), .val (.int (3 : Int32)), .val (.ref z)] [(.ref z)])) rfl (by rw [hml]; rfl) (Steps.refl _) (argsL := []) (rest := []) (lenOf own_pd1 rfl) rfl (by show 2 * 0 + _ ≤ _; exact Nat.le_of_eq rfl) (Jvm.hb hby at_10) (fun _ _ => ⟨rfl, p10__0, (by decide : 0 + 0 ≤ _), (by decide : 0 + 0 ≤ _)⟩)
    dsimp only [Pt.U, Pt.locs, Pt.cells, Pt.slots] at X11_ l11_ y11_ z11_ st11_ hQ11_
    subst l11_ y11_ z11_
    obtain ⟨rfl, N11_q, p11__0⟩ := hQ11_
    have N11_ := Fr.app N10_ N11_q
    refine own_fin (fun tT kK => st11_.trans kK) ?_
    show own_Fin pP eE below _ (T11_.setTop (mkF mM 13 #[.val (.int p1), .val (.int (3 : Int32)), .val (.ref z)] [(.int (1 : Int32))]))
    refine own_fin (b := T11_.setTop (mkF mM 14 #[.val (.int p1), .val (.int (3 : Int32)), .val (.ref z)] [(.int (3 : Int32)), (.int (1 : Int32))])) (fun tT kK => ?_) ?_
    · show Steps pP.tables eE below (T11_.setTop (mkF mM 13 #[.val (.int p1), .val (.int (3 : Int32)), .val (.ref z)] [(.int (1 : Int32))])) tT
      refine XS.iloadN X11_.here hx rfl (Jvm.hb hby at_13) rfl ?_
      show Steps pP.tables eE below (T11_.setTop (mkF mM 14 #[.val (.int p1), .val (.int (3 : Int32)), .val (.ref z)] [(.int (3 : Int32)), (.int (1 : Int32))])) tT
      exact kK
    obtain ⟨_, _, ⟨T12_, L12_, k12_, n12_⟩, -, X12_, ⟨Lc12_, hQ12_, l12_, y12_, z12_⟩, st12_⟩ := Jvm.LawKit.callS X11_ hx (y := (⟨"com/example/waldrapp/waldrapp/IntentStateSettledPinLaw", "expected", "(I)Z"⟩ : MethodName)) hown (mvT hZ (hw _ (List.mem_of_getElem? (i := 16) rfl))) (mvT hZ (hw _ (List.mem_of_getElem? (i := 17) rfl))) (mvT hZ (hw _ (List.mem_of_getElem? (i := 2) rfl))) (mvT hZ (hw _ (List.mem_of_getElem? (i := 18) rfl))) (by decide) (backOf (W := 1) (rm_exp3 lL Z a0 hw []  h0 n0 (Nat.le_trans Z0 K0.1) ) hZ (hw _ (List.mem_of_getElem? (i := 18) rfl)) (hw _ (List.mem_of_getElem? (i := 2) rfl)) (by decide) (by decide)) (g := (mkF mM 14 #[.val (.int p1), .val (.int (3 : Int32)), .val (.ref z)] [(.int (3 : Int32)), (.int (1 : Int32))])) rfl (by rw [hml]; rfl) (argsL := [(.int (3 : Int32))]) (rest := [(.int (1 : Int32))]) (lenOf own_pd2 rfl) rfl (by show 2 * 0 + _ ≤ _; exact Nat.le_of_eq rfl) (Jvm.hb hby at_14) (fun _ _ => ⟨rfl, p11__0, (by decide : 0 + 0 ≤ _), (by decide : 0 + 0 ≤ _)⟩)
    dsimp only [Pt.U, Pt.locs, Pt.cells, Pt.slots] at X12_ l12_ y12_ z12_ st12_ hQ12_
    subst l12_ y12_ z12_
    obtain ⟨rfl, N12_q, p12__0⟩ := hQ12_
    have N12_ := Fr.app N11_ N12_q
    refine own_fin (fun tT kK => st12_ tT kK) ?_
    show own_Fin pP eE below _ (T12_.setTop (mkF mM 17 #[.val (.int p1), .val (.int (3 : Int32)), .val (.ref z)] [(.int (1 : Int32)), (.int (1 : Int32))]))
    refine own_fin (b := T12_.setTop (mkF mM 25 #[.val (.int p1), .val (.int (3 : Int32)), .val (.ref z)] [(.int (1 : Int32))])) (fun tT kK => ?_) ?_
    · show Steps pP.tables eE below (T12_.setTop (mkF mM 17 #[.val (.int p1), .val (.int (3 : Int32)), .val (.ref z)] [(.int (1 : Int32)), (.int (1 : Int32))])) tT
      refine XS.icmpNo X12_.here hx rfl (Jvm.hb hby at_17) rfl (teq ((by decide) : (1 : Int32) = (1 : Int32))).2 ?_
      show Steps pP.tables eE below (T12_.setTop (mkF mM 20 #[.val (.int p1), .val (.int (3 : Int32)), .val (.ref z)] [])) tT
      refine XS.iconst X12_.here hx rfl (Jvm.hb hby at_20) ?_
      show Steps pP.tables eE below (T12_.setTop (mkF mM 21 #[.val (.int p1), .val (.int (3 : Int32)), .val (.ref z)] [(.int (1 : Int32))])) tT
      refine XS.goto X12_.here hx rfl (pc0 := 21) (pc' := 25) rfl (Jvm.hb hby at_21) (by decide) (by decide) ?_
      show Steps pP.tables eE below (T12_.setTop (mkF mM 25 #[.val (.int p1), .val (.int (3 : Int32)), .val (.ref z)] [(.int (1 : Int32))])) tT
      exact kK
    obtain ⟨fs, hr, hrun, hended, hW, hsame⟩ := X12_.leave (v := some (.int (1 : Int32))) (fun h => by rw [Bd.returns] at h; cases h)
    refine ⟨_, _, ?_, hrun, hended, _, _, rfl, ?_, ⟨_, rfl⟩, hW, hsame.mono (by decide) (by decide)⟩
    · show Steps pP.tables eE below (T12_.setTop (mkF mM 25 #[.val (.int p1), .val (.int (3 : Int32)), .val (.ref z)] [(.int (1 : Int32))])) _
      exact retN X12_ hx (t := .boolean) Bd.returns (by simp) (Jvm.hb hby at_25) hr
    · show Q_rm0 Z p1 u v w z h0 n0 _ T12_.heap _
      rw [p12__0]
      exact ⟨rfl, N12_⟩
set_option maxRecDepth 65536 in
set_option maxHeartbeats 40000000 in
theorem comes_1 {Post : Tables → Env → Array Value → State → Outcome → State → Prop} (hpost : ∀ tb e args s v u, (limb_1_1.after args s (.returned v) u = true ∧ limb_1_2.after args s (.returned v) u = true ∧ True) → FrameEnd s (.returned v) u (Jvm.fieldLocs frame_1_writes args s ++ Jvm.arrayLocs frame_1_arrays args s ++ Jvm.staticLocs frame_1_statics s) 0 0 → Post tb e args s (.returned v) u) :
    ArmFor flags0 classFile x code maxLocals ret World_1 tables_1 room_1 Calls_1 rest_1 Pre_1 Post := by
  intro l hfl _ _ p e ha hc hk s m args below hf hA hF happ hP
  obtain ⟨hcalls, hrest, hpre⟩ := hP
  obtain ⟨-, -, -, hnamed, -, -, -, hat⟩ := (Spec.applies_iff hf).mp happ
  obtain ⟨hg, hn⟩ := and_e (Cond.before_iff.mp (show (Jvm.Cond.and given_1 narrow_1).before args s = true from hpre))
  obtain ⟨gg1, gg2⟩ := and_e hg
  obtain ⟨w0, rfl⟩ : ∃ w0 : Value, args = #[w0] := by
    have hs : args.size = 1 := by simpa [Cond.value, given_1] using gg1
    obtain ⟨L⟩ := args
    match L, hs with
    | [w0], _ => exact ⟨w0, rfl⟩
  have hw := fun d (hd : d ∈ tables_1) => atoms_spec (ws := Jvm.Cond.code x code maxLocals ret :: tables_1) hat d (List.mem_cons_of_mem _ hd)
  have hfit : Fit s := fun {y c} hc i hi => by
    obtain ⟨ha, rfl⟩ := Array.getElem?_eq_some_iff.mp hc
    have q := List.all_eq_true.mp ((Array.all_eq_true_iff_forall_mem.mp hF) _ (Array.getElem_mem ha)) i (List.mem_range.mpr hi)
    simpa [Array.getElem?_eq_getElem hi] using q
  obtain ⟨i0, ei0⟩ := is_v gg2
  obtain rfl : w0 = (.int i0) := Option.some.inj ei0
  obtain ⟨gg3, gg4⟩ := and_e hn
  obtain ⟨gg5, gg6⟩ := and_e gg4
  obtain ⟨gg7, gg8⟩ := and_e gg6
  obtain ⟨gg9, gg10⟩ := and_e gg8
  obtain ⟨gg11, gg12⟩ := and_e gg10
  obtain ⟨gg13, gg14⟩ := and_e gg12
  obtain ⟨gg15, gg16⟩ := and_e gg14
  obtain ⟨u_PENDING, ev_PENDING⟩ := exa_v gg3
  have S_PENDING := Sta.start ev_PENDING (Or.inr ⟨(hw _ (List.mem_of_getElem? (i := 5) rfl)), (hw _ (List.mem_of_getElem? (i := 6) rfl))⟩)
  have E_PENDING := Exa.start ev_PENDING gg3
  obtain ⟨u_DELEGATED, ev_DELEGATED⟩ := exa_v gg15
  have S_DELEGATED := Sta.start ev_DELEGATED (Or.inr ⟨(hw _ (List.mem_of_getElem? (i := 5) rfl)), (hw _ (List.mem_of_getElem? (i := 22) rfl))⟩)
  have E_DELEGATED := Exa.start ev_DELEGATED gg15
  obtain ⟨u_APPLIED, ev_APPLIED⟩ := exa_v gg5
  have S_APPLIED := Sta.start ev_APPLIED (Or.inr ⟨(hw _ (List.mem_of_getElem? (i := 5) rfl)), (hw _ (List.mem_of_getElem? (i := 13) rfl))⟩)
  have E_APPLIED := Exa.start ev_APPLIED gg5
  obtain ⟨u_REVERTED, ev_REVERTED⟩ := exa_v gg11
  have S_REVERTED := Sta.start ev_REVERTED (Or.inr ⟨(hw _ (List.mem_of_getElem? (i := 5) rfl)), (hw _ (List.mem_of_getElem? (i := 15) rfl))⟩)
  have E_REVERTED := Exa.start ev_REVERTED gg11
  have ne_PENDING_DELEGATED : u_PENDING ≠ u_DELEGATED := fun q => absurd ((own_ord ev_PENDING gg7).symm.trans ((congrArg (fun z => s.fieldOf? z _ _ _) q).trans (own_ord ev_DELEGATED gg16))) (by simp)
  have ne_PENDING_APPLIED : u_PENDING ≠ u_APPLIED := fun q => absurd ((own_ord ev_PENDING gg7).symm.trans ((congrArg (fun z => s.fieldOf? z _ _ _) q).trans (own_ord ev_APPLIED gg9))) (by simp)
  have ne_PENDING_REVERTED : u_PENDING ≠ u_REVERTED := fun q => absurd ((own_ord ev_PENDING gg7).symm.trans ((congrArg (fun z => s.fieldOf? z _ _ _) q).trans (own_ord ev_REVERTED gg13))) (by simp)
  have ne_DELEGATED_APPLIED : u_DELEGATED ≠ u_APPLIED := fun q => absurd ((own_ord ev_DELEGATED gg16).symm.trans ((congrArg (fun z => s.fieldOf? z _ _ _) q).trans (own_ord ev_APPLIED gg9))) (by simp)
  have ne_DELEGATED_REVERTED : u_DELEGATED ≠ u_REVERTED := fun q => absurd ((own_ord ev_DELEGATED gg16).symm.trans ((congrArg (fun z => s.fieldOf? z _ _ _) q).trans (own_ord ev_REVERTED gg13))) (by simp)
  have ne_APPLIED_REVERTED : u_APPLIED ≠ u_REVERTED := fun q => absurd ((own_ord ev_APPLIED gg9).symm.trans ((congrArg (fun z => s.fieldOf? z _ _ _) q).trans (own_ord ev_REVERTED gg13))) (by simp)
  obtain ⟨n, o, h1, h2, h3, _, L, rfl, ⟨rfl, N⟩, hq⟩ := rm0 l s _ hw tables_1 i0 u_PENDING u_DELEGATED u_APPLIED u_REVERTED s.heap s.heap.size (Nat.le_refl _) S_PENDING S_DELEGATED S_APPLIED S_REVERTED E_PENDING E_DELEGATED E_APPLIED E_REVERTED ne_PENDING_DELEGATED ne_PENDING_APPLIED ne_PENDING_REVERTED ne_DELEGATED_APPLIED ne_DELEGATED_REVERTED ne_APPLIED_REVERTED p e ha hc hk s m _ below hf ((Spec.applies_iff_loose hf).mp happ).1 ⟨rfl, State.Warmed39.refl s, rfl⟩ trivial
  refine ⟨n, _, h1, h2, h3, hpost _ _ _ _ _ _ ⟨Cond.after_iff.mpr rfl, Cond.after_iff.mpr (eq_i res_at (Term.int_eval (1)) rfl), trivial⟩ ⟨hq.1, hq.2.1, (hq.2.2.sift fun y hy => Or.inr (N y hy)).mono (by decide) (by decide)⟩⟩
theorem main_1_1 : Claimed_1_1 := comes_1 fun _ _ _ _ _ _ h hF => ⟨h.1, hF⟩
theorem main_1_2 : Claimed_1_2 := comes_1 fun _ _ _ _ _ _ h hF => ⟨h.2.1, hF⟩
end Jvm.Pilot.@@N@@
namespace Jvm.Pilot.@@N@@
open Jvm Jvm.ClassFile Sem Op Lib Jvm.Free Jvm.Stand Jvm.Pilot.@@N@@.Jvm.D
/-! MADE BY PROGRAM (witnessworld.py) out of the Statement's table words and the real class files: 12 classes; the members and pool entries that the words name. The judged class is class 1, her method 3. -/
namespace start1
open Jvm.ClassFile
def u (s : String) : CpInfo := .utf8 (stringToUtf16 s)
/-- a pool by its gaps: so many unusable entries, then the entry; so many at the end -/
def gap : Nat → List CpInfo → List CpInfo
  | 0, r => r
  | n + 1, r => .unusable :: gap n r
def poolList (es : List (Nat × CpInfo)) (last : Nat) : List CpInfo := es.foldr (fun e r => gap e.1 (e.2 :: r)) (gap last [])
def pool (es : List (Nat × CpInfo)) (last : Nat) : Array CpInfo := ⟨poolList es last⟩
def fileOf (pool : Array CpInfo) (this : Nat) (attrs : Array Attribute := #[]) (ms : Array MethodInfo := #[]) (fl : Nat := 33) (sup : Nat := 0) (ifs : Array Nat := #[]) (fds : Array FieldInfo := #[]) : ClassFile where
  minorVersion := 0
  majorVersion := 65
  constantPool := pool
  accessFlags := fl
  thisClass := this
  superClass := sup
  interfaces := ifs
  fields := fds
  methods := ms
  attributes := attrs
def plain (name : String) (sup : Option ClassId) : Class where
  name := name
  kind := .ordinary
  loader := none
  accessFlags := 33
  super := sup
  interfaces := #[]
  cf := none
  fields := #[]
  methods := #[]
  instanceTypes := #[]
  staticTypes := #[]
  resolved := #[]
  callSites := []
  init := .initialized
  statics := none
  mirror := none

def pool0 : Array CpInfo := pool [(5, u "<init>"), (0, u "()V"), (1, .class_ 10), (1, u "java/lang/Object")] 113

def k0m0 : Method := { name := "<init>", desc := "()V", sig := { parameters := [], returnType := none }, accessFlags := 1, code := none }
/-- java/lang/Object -/
def k0 : Class := { plain "java/lang/Object" none with
  accessFlags := 33
  interfaces := #[]
  cf := some (fileOf pool0 8 #[] #[{ accessFlags := 1, nameIndex := 5, descriptorIndex := 6, attributes := #[] }] 33 0 #[] #[])
  fields := #[]
  methods := #[k0m0]
  instanceTypes := #[]
  staticTypes := #[]
  resolved := Array.replicate 124 none
  statics := none }

def pool1 : Array CpInfo := pool [(2, .class_ 4), (1, u "java/lang/Object"), (0, u "<init>"), (0, u "()V"), (0, .fieldref 8 9), (0, .class_ 10), (0, .nameAndType 11 12), (0, u "com/example/waldrapp/waldrapp/IntentState"), (0, u "PENDING"), (0, u "Lcom/example/waldrapp/waldrapp/IntentState;"), (0, .fieldref 8 14), (0, .nameAndType 15 12), (0, u "DELEGATED"), (0, .fieldref 8 17), (0, .nameAndType 18 12), (0, u "APPLIED"), (0, .fieldref 8 20), (0, .nameAndType 21 12), (0, u "REVERTED"), (0, .methodref 23 24), (0, .class_ 25), (0, .nameAndType 26 27), (0, u "com/example/waldrapp/waldrapp/IntentStateSettledPinLaw"), (0, u "pick"), (0, u "(I)Lcom/example/waldrapp/waldrapp/IntentState;"), (0, .methodref 8 29), (0, .nameAndType 30 31), (0, u "settled"), (0, u "()Z"), (0, .methodref 23 33), (0, .nameAndType 34 35), (0, u "expected"), (0, u "(I)Z"), (3, u "law")] 2

def k1m0 : Method := { name := "<init>", desc := "()V", sig := { parameters := [], returnType := none }, accessFlags := 1, code := none }
def k1c1 : Code := { maxStack := 2, maxLocals := 1, code := method_2_code, exceptionTable := #[], attributes := #[] }
def k1m1 : Method := { name := "pick", desc := "(I)Lcom/example/waldrapp/waldrapp/IntentState;", sig := { parameters := [.int], returnType := some (.object "com/example/waldrapp/waldrapp/IntentState") }, accessFlags := 10, code := some k1c1 }
def k1c2 : Code := { maxStack := 2, maxLocals := 1, code := method_3_code, exceptionTable := #[], attributes := #[] }
def k1m2 : Method := { name := "expected", desc := "(I)Z", sig := { parameters := [.int], returnType := some .boolean }, accessFlags := 10, code := some k1c2 }
def k1c3 : Code := { maxStack := 2, maxLocals := 3, code := code, exceptionTable := #[], attributes := #[] }
def k1m3 : Method := { name := "law", desc := "(I)Z", sig := { parameters := [.int], returnType := some .boolean }, accessFlags := 9, code := some k1c3 }
/-- com/example/waldrapp/waldrapp/IntentStateSettledPinLaw -/
def k1 : Class := { plain "com/example/waldrapp/waldrapp/IntentStateSettledPinLaw" (some 0) with
  accessFlags := 49
  interfaces := #[]
  cf := some (fileOf pool1 23 #[] #[{ accessFlags := 1, nameIndex := 5, descriptorIndex := 6, attributes := #[] }, { accessFlags := 10, nameIndex := 26, descriptorIndex := 27, attributes := #[] }, { accessFlags := 10, nameIndex := 34, descriptorIndex := 35, attributes := #[] }, { accessFlags := 9, nameIndex := 39, descriptorIndex := 35, attributes := #[] }] 49 2 #[] #[])
  fields := #[]
  methods := #[k1m0, k1m1, k1m2, k1m3]
  instanceTypes := #[]
  staticTypes := #[]
  resolved := Array.replicate 42 none
  statics := none }

def pool2 : Array CpInfo := pool [(1, .class_ 2), (0, u "java/lang/constant/Constable"), (0, .class_ 4), (0, u "java/lang/Object")] 6

/-- java/lang/constant/Constable -/
def k2 : Class := { plain "java/lang/constant/Constable" (some 0) with
  accessFlags := 1537
  interfaces := #[]
  cf := some (fileOf pool2 1 #[] #[] 1537 3 #[] #[])
  fields := #[]
  methods := #[]
  instanceTypes := #[]
  staticTypes := #[]
  resolved := Array.replicate 11 none
  statics := none }

def pool3 : Array CpInfo := pool [(1, .class_ 2), (0, u "java/lang/Comparable"), (0, .class_ 4), (0, u "java/lang/Object")] 7

/-- java/lang/Comparable -/
def k3 : Class := { plain "java/lang/Comparable" (some 0) with
  accessFlags := 1537
  interfaces := #[]
  cf := some (fileOf pool3 1 #[] #[] 1537 3 #[] #[])
  fields := #[]
  methods := #[]
  instanceTypes := #[]
  staticTypes := #[]
  resolved := Array.replicate 12 none
  statics := none }

def pool4 : Array CpInfo := pool [(1, .class_ 2), (0, u "java/io/Serializable"), (0, .class_ 4), (0, u "java/lang/Object")] 2

/-- java/io/Serializable -/
def k4 : Class := { plain "java/io/Serializable" (some 0) with
  accessFlags := 1537
  interfaces := #[]
  cf := some (fileOf pool4 1 #[] #[] 1537 3 #[] #[])
  fields := #[]
  methods := #[]
  instanceTypes := #[]
  staticTypes := #[]
  resolved := Array.replicate 7 none
  statics := none }

def pool5 : Array CpInfo := pool [(2, .class_ 4), (1, u "java/lang/Enum"), (0, u "name"), (0, u "Ljava/lang/String;"), (2, u "ordinal"), (0, u "I"), (1, .class_ 14), (1, u "java/lang/Object"), (4, u "hash"), (86, .class_ 108), (1, u "java/lang/Enum$EnumDesc"), (2, .class_ 112), (0, u "java/lang/constant/Constable"), (0, .class_ 114), (0, u "java/lang/Comparable"), (0, .class_ 116), (0, u "java/io/Serializable")] 87

/-- java/lang/Enum -/
def k5 : Class := { plain "java/lang/Enum" (some 0) with
  accessFlags := 1057
  interfaces := #[2, 3, 4]
  cf := some (fileOf pool5 2 #[.nestMembers #[106]] #[] 1057 12 #[111, 113, 115] #[{ accessFlags := 18, nameIndex := 5, descriptorIndex := 6, attributes := #[] }, { accessFlags := 18, nameIndex := 9, descriptorIndex := 10, attributes := #[] }, { accessFlags := 2, nameIndex := 19, descriptorIndex := 10, attributes := #[] }])
  fields := #[{ name := "name", type := (.object "java/lang/String"), accessFlags := 18, slot := 0, constantValue := 0 }, { name := "ordinal", type := .int, accessFlags := 18, slot := 1, constantValue := 0 }, { name := "hash", type := .int, accessFlags := 2, slot := 2, constantValue := 0 }]
  methods := #[]
  instanceTypes := #[(.object "java/lang/String"), .int, .int]
  staticTypes := #[]
  resolved := Array.replicate 204 none
  statics := none }

def pool6 : Array CpInfo := pool [(1, .class_ 2), (0, u "com/example/waldrapp/waldrapp/IntentState"), (2, u "PENDING"), (0, u "Lcom/example/waldrapp/waldrapp/IntentState;"), (2, u "DELEGATED"), (0, .fieldref 1 11), (0, .nameAndType 12 6), (0, u "APPLIED"), (0, .fieldref 1 14), (0, .nameAndType 15 6), (0, u "REVERTED"), (2, u "$VALUES"), (0, u "[Lcom/example/waldrapp/waldrapp/IntentState;"), (6, .class_ 28), (1, u "java/lang/Enum"), (39, u "settled"), (0, u "()Z")] 5

def k6c0 : Code := { maxStack := 2, maxLocals := 1, code := prog_16_method_5_code, exceptionTable := #[], attributes := #[] }
def k6m0 : Method := { name := "settled", desc := "()Z", sig := { parameters := [], returnType := some .boolean }, accessFlags := 0, code := some k6c0 }
/-- com/example/waldrapp/waldrapp/IntentState -/
def k6 : Class := { plain "com/example/waldrapp/waldrapp/IntentState" (some 5) with
  accessFlags := 16433
  interfaces := #[]
  cf := some (fileOf pool6 1 #[] #[{ accessFlags := 0, nameIndex := 68, descriptorIndex := 69, attributes := #[] }] 16433 26 #[] #[{ accessFlags := 16409, nameIndex := 5, descriptorIndex := 6, attributes := #[] }, { accessFlags := 16409, nameIndex := 9, descriptorIndex := 6, attributes := #[] }, { accessFlags := 16409, nameIndex := 12, descriptorIndex := 6, attributes := #[] }, { accessFlags := 16409, nameIndex := 15, descriptorIndex := 6, attributes := #[] }, { accessFlags := 4122, nameIndex := 18, descriptorIndex := 19, attributes := #[] }])
  fields := #[{ name := "PENDING", type := (.object "com/example/waldrapp/waldrapp/IntentState"), accessFlags := 16409, slot := 0, constantValue := 0 }, { name := "DELEGATED", type := (.object "com/example/waldrapp/waldrapp/IntentState"), accessFlags := 16409, slot := 1, constantValue := 0 }, { name := "APPLIED", type := (.object "com/example/waldrapp/waldrapp/IntentState"), accessFlags := 16409, slot := 2, constantValue := 0 }, { name := "REVERTED", type := (.object "com/example/waldrapp/waldrapp/IntentState"), accessFlags := 16409, slot := 3, constantValue := 0 }, { name := "$VALUES", type := (.array (.object "com/example/waldrapp/waldrapp/IntentState")), accessFlags := 4122, slot := 4, constantValue := 0 }]
  methods := #[k6m0]
  instanceTypes := #[(.object "java/lang/String"), .int, .int]
  staticTypes := #[(.object "com/example/waldrapp/waldrapp/IntentState"), (.object "com/example/waldrapp/waldrapp/IntentState"), (.object "com/example/waldrapp/waldrapp/IntentState"), (.object "com/example/waldrapp/waldrapp/IntentState"), (.array (.object "com/example/waldrapp/waldrapp/IntentState"))]
  resolved := Array.replicate 75 none
  statics := some 0 }

def pool7 : Array CpInfo := pool [(1, u "java/lang/Cloneable"), (0, .class_ 1), (0, u "java/lang/Object"), (0, .class_ 3)] 3

/-- java/lang/Cloneable -/
def k7 : Class := { plain "java/lang/Cloneable" (some 0) with
  accessFlags := 1537
  interfaces := #[]
  cf := some (fileOf pool7 2 #[] #[] 1537 4 #[] #[])
  fields := #[]
  methods := #[]
  instanceTypes := #[]
  staticTypes := #[]
  resolved := Array.replicate 8 none
  statics := none }

/-- the primitive byte -/
def k8 : Class := { plain "byte" none with kind := .primitive 'B', accessFlags := 0x411 }
/-- [B -/
def k9 : Class := { plain "[B" (some 0) with kind := .array 8 .byte, interfaces := #[7, 4], accessFlags := 1041 }

/-- the primitive int -/
def k10 : Class := { plain "int" none with kind := .primitive 'I', accessFlags := 0x411 }
/-- [I -/
def k11 : Class := { plain "[I" (some 0) with kind := .array 10 .int, interfaces := #[7, 4], accessFlags := 1041 }

def heap : Heap := #[{ cls := 6, slots := #[.ref 1, .ref 2, .ref 3, .ref 4, .null], vm := .statics 6 },
  { cls := 6, slots := #[.null, .int 0, .int 0], vm := .none },
  { cls := 6, slots := #[.null, .int 1, .int 0], vm := .none },
  { cls := 6, slots := #[.null, .int 2, .int 0], vm := .none },
  { cls := 6, slots := #[.null, .int 3, .int 0], vm := .none }]
def classes : Array Class := #[k0, k1, k2, k3, k4, k5, k6, k7, k8, k9, k10, k11]
def interned : List (Array UInt16 × Addr) := []
def slotsUsed : Nat := 17
def theMethod : MethodId := ⟨1, 3⟩
def args0 : Array Value := #[.int 5]
def aboutOver (below : List Frame) : State where
  vm := { classes := classes, interned := interned.toArray }
  heap := heap
  slotsUsed := slotsUsed
  threads := #[{ frames := .invoking theMethod args0 :: below }]
def below0 : List Frame := [.native { method := ⟨0, 0⟩, args := #[] }]
def about1 : State := aboutOver below0
def p0 : Program := .bare "" "" ""
def e0 : Env := launch0.env 0 0 0
theorem w_frames : about1.frames = Frame.invoking theMethod args0 :: below0 := rfl
set_option maxRecDepth 65536 in
theorem w_args : argsFit about1.vm theMethod args0 = true := by decide +kernel
set_option maxRecDepth 65536 in
theorem w_heap : heapFits about1 = true := by decide +kernel
set_option maxRecDepth 65536 in
theorem w_runnable : about1.curStatus? = some .runnable := by decide +kernel
set_option maxRecDepth 65536 in
theorem w_alone : about1.alone = true := by decide +kernel
set_option maxRecDepth 65536 in
theorem w_named : about1.methodNamed? x = some theMethod := by decide +kernel
set_option maxRecDepth 65536 in
theorem w_hears : about1.hears theMethod below0 = true := by decide +kernel
set_option maxRecDepth 65536 in
theorem w_ripe : about1.ripe theMethod args0 below0 = true := by decide +kernel
theorem w_running : about1.status = .running := rfl
set_option maxRecDepth 65536 in
theorem w_room : about1.hasRoom e0.platform room_1 = true :=
  launch0.hasRoom_least _ room_1 (by decide +kernel) (by decide +kernel) (by decide +kernel) (by decide +kernel) (by decide +kernel) (by decide +kernel)
theorem allAtoms_all (ts : List Jvm.Cond) (a : Array Jvm.Value) (st : Jvm.State) : (allAtoms ts).before a st = ts.all (fun c => c.before a st) := by
  induction ts with
  | nil => rfl
  | cons c t ih =>
    show (Jvm.Cond.and c (allAtoms t)).before a st = _
    rw [Jvm.Cond.before_and, ih, List.all_cons]
def words1 : List Jvm.Cond := Jvm.Cond.code x code maxLocals ret :: tables_1
/-- a 'code' word, met by the world's own term for the bytes: nothing is compared byte by byte -/
theorem code_word {y : MethodName} {bytes : ByteArray} {mx : Nat} {rt : Option FieldType} {a : Array Value} {s : State} {m : MethodId} {meth : Method} {c : Code} (h1 : s.methodNamed? y = some m) (h2 : s.vm.method? m = some meth) (h3 : meth.code = some c) (h4 : c.code = bytes)
    (h5 : (c.maxLocals == mx && c.exceptionTable.isEmpty && decide (c.maxStack ≤ mostOperands) && decide (meth.sig.returnType = rt) && !meth.locks && decide (parseMethodDescriptor y.desc = some meth.sig)) = true) : (Jvm.Cond.code y bytes mx rt).before a s = true := by
  simp only [Bool.and_eq_true, beq_iff_eq, Bool.not_eq_true', decide_eq_true_eq] at h5
  obtain ⟨⟨⟨⟨⟨g1, g2⟩, g3⟩, g4⟩, g5⟩, g6⟩ := h5
  simp [Cond.before, Cond.holds, Cond.value, h1, h2, h3, h4, g1, g2, g3, g4, g5, g6]
def isCode : Jvm.Cond → Bool
  | .code _ _ _ _ => true
  | _ => false
theorem all_split {L : List Jvm.Cond} {P : Jvm.Cond → Bool} (h1 : L.all (fun c => isCode c || P c) = true) (h2 : ∀ c ∈ L.filter isCode, P c = true) : L.all P = true := by
  refine List.all_eq_true.mpr fun c hc => ?_
  have h := List.all_eq_true.mp h1 c hc
  rcases Bool.eq_false_or_eq_true (isCode c) with hi | hi
  · exact h2 c (List.mem_filter.mpr ⟨hc, hi⟩)
  · simpa [hi] using h
set_option maxRecDepth 65536 in
theorem w_c0 : (Jvm.Cond.code x code maxLocals ret).before args0 about1 = true := code_word (m := ⟨1, 3⟩) (meth := k1m3) (c := k1c3) (by decide +kernel) rfl rfl rfl (by decide +kernel)
set_option maxRecDepth 65536 in
theorem w_c1 : (Jvm.Cond.code ({ cls := "com/example/waldrapp/waldrapp/IntentStateSettledPinLaw", name := "pick", desc := "(I)Lcom/example/waldrapp/waldrapp/IntentState;" } : Jvm.MethodName) method_2_code (1 : Nat) (Option.some (Jvm.ClassFile.FieldType.object "com/example/waldrapp/waldrapp/IntentState"))).before args0 about1 = true := code_word (m := ⟨1, 1⟩) (meth := k1m1) (c := k1c1) (by decide +kernel) rfl rfl rfl (by decide +kernel)
set_option maxRecDepth 65536 in
theorem w_c2 : (Jvm.Cond.code ({ cls := "com/example/waldrapp/waldrapp/IntentState", name := "settled", desc := "()Z" } : Jvm.MethodName) prog_16_method_5_code (1 : Nat) (Option.some Jvm.ClassFile.FieldType.boolean)).before args0 about1 = true := code_word (m := ⟨6, 0⟩) (meth := k6m0) (c := k6c0) (by decide +kernel) rfl rfl rfl (by decide +kernel)
set_option maxRecDepth 65536 in
theorem w_c3 : (Jvm.Cond.code ({ cls := "com/example/waldrapp/waldrapp/IntentStateSettledPinLaw", name := "expected", desc := "(I)Z" } : Jvm.MethodName) method_3_code (1 : Nat) (Option.some Jvm.ClassFile.FieldType.boolean)).before args0 about1 = true := code_word (m := ⟨1, 2⟩) (meth := k1m2) (c := k1c2) (by decide +kernel) rfl rfl rfl (by decide +kernel)
def codes1 : List Jvm.Cond := [Jvm.Cond.code x code maxLocals ret, Jvm.Cond.code ({ cls := "com/example/waldrapp/waldrapp/IntentStateSettledPinLaw", name := "pick", desc := "(I)Lcom/example/waldrapp/waldrapp/IntentState;" } : Jvm.MethodName) method_2_code (1 : Nat) (Option.some (Jvm.ClassFile.FieldType.object "com/example/waldrapp/waldrapp/IntentState")), Jvm.Cond.code ({ cls := "com/example/waldrapp/waldrapp/IntentState", name := "settled", desc := "()Z" } : Jvm.MethodName) prog_16_method_5_code (1 : Nat) (Option.some Jvm.ClassFile.FieldType.boolean), Jvm.Cond.code ({ cls := "com/example/waldrapp/waldrapp/IntentStateSettledPinLaw", name := "expected", desc := "(I)Z" } : Jvm.MethodName) method_3_code (1 : Nat) (Option.some Jvm.ClassFile.FieldType.boolean)]
set_option maxRecDepth 65536 in
theorem codes_eq : words1.filter isCode = codes1 := rfl
theorem w_codes : ∀ c ∈ words1.filter isCode, c.before args0 about1 = true := by
  rw [codes_eq]
  intro c hc
  simp only [codes1, List.mem_cons, List.not_mem_nil, or_false] at hc
  rcases hc with rfl | rfl | rfl | rfl
  · exact w_c0
  · exact w_c1
  · exact w_c2
  · exact w_c3
set_option maxRecDepth 65536 in
theorem w_t1 : words1.all (fun c => isCode c || c.before args0 about1) = true := by decide +kernel
theorem w_tables : (allAtoms (Jvm.Cond.code x code maxLocals ret :: tables_1)).before args0 about1 = true := by
  rw [allAtoms_all]
  show words1.all (fun c => c.before args0 about1) = true
  refine all_split ?_ w_codes
  rw [w_t1]
set_option maxRecDepth 65536 in
theorem w_case : (Jvm.Cond.and given_1 narrow_1).before args0 about1 = true := by decide +kernel
theorem w_applies : (headSpec (Jvm.Cond.code x code maxLocals ret :: tables_1) room_1).applies x e0.platform about1 = true :=
  (Spec.applies_iff w_frames).mpr ⟨w_running, w_runnable, w_alone, w_named, w_hears, w_ripe, w_room, w_tables⟩
theorem atStart : AtStart classFile x code maxLocals ret World_1 tables_1 room_1 Calls_1 rest_1 Pre_1 launch0 p0 e0 about1 theMethod args0 below0 :=
  ⟨lists_1, trivial, launch0.admits_env _ _ _, launch0.least_env, fairChoices_fair.cas, fairChoices_fair.clock, w_frames, w_args, w_heap, w_applies, trivial, trivial, w_case⟩
end start1
theorem witness_1 : WitnessClaimed_1 := ⟨start1.p0, start1.e0, start1.about1, start1.theMethod, start1.args0, start1.below0, start1.atStart⟩
end Jvm.Pilot.@@N@@
