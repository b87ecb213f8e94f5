import JvmDerived
import JvmDerived.Pilot.@@N@@Statement
import JvmDerived.Pilot.@@N@@Code
set_option linter.unusedVariables false
set_option linter.unusedSimpArgs false
namespace Jvm.Pilot.@@N@@
open Jvm Jvm.ClassFile Sem Op Lib Jvm.Free Jvm.Stand Jvm.LawKit Jvm.RoadKit Bundle Jvm.Pilot.@@N@@.Jvm.D
def own_Fin (p : Program) (e : Env) (below : List Frame) (P : State → Outcome → Prop) (a : State) : Prop := ∃ t o, Steps p.tables e below a t ∧ t.status = .running ∧ Ended t below o ∧ P t o
theorem own_fin {p : Program} {e : Env} {below : List Frame} {P : State → Outcome → Prop} {a b : State} (k : ∀ t, Steps p.tables e below b t → Steps p.tables e below a t) (h : own_Fin p e below P b) : own_Fin p e below P a := by
  obtain ⟨t, o, s, r⟩ := h
  exact ⟨t, o, k t s, r⟩
theorem own_StaKeep {Z : State} {h : Heap} {C n d : String} {v : Value} {n0 : Nat} (O : Old Z n0 h) (F : Sta Z Z.heap C n d v) : Sta Z h C n d v := F.ext O.2

theorem own_ix {p v : Int32} (h : (if p < (0 : Int32) then (-1 : Int32) else p) = v) : -1 ≤ v.toInt := by
  by_cases q : p < (0 : Int32)
  · rw [if_pos q] at h; subst h; decide
  · rw [if_neg q] at h; subst h
    rw [Int32.lt_iff_toInt_lt] at q
    have : (0 : Int32).toInt = 0 := rfl
    omega
theorem own_max {a b v : Int32} (h : (if a < b then b else a) = v) : a.toInt ≤ v.toInt ∧ b.toInt ≤ v.toInt ∧ (v.toInt = a.toInt ∨ v.toInt = b.toInt) := by
  by_cases q : a < b
  · rw [if_pos q] at h; subst h; rw [Int32.lt_iff_toInt_lt] at q; omega
  · rw [if_neg q] at h; subst h; rw [Int32.lt_iff_toInt_lt] at q; omega
theorem own_neg {a : Int32} (h : a.toInt < 0) : a < (0 : Int32) := by rw [Int32.lt_iff_toInt_lt]; exact h
theorem own_pos {a : Int32} (h : 0 ≤ a.toInt) : ¬ a < (0 : Int32) := by
  rw [Int32.lt_iff_toInt_lt]
  have : (0 : Int32).toInt = 0 := rfl
  omega
theorem own_any {a b c d m1 m2 m3 : Int32} (ha : -1 ≤ a.toInt) (hb : -1 ≤ b.toInt) (hc : -1 ≤ c.toInt) (hd : -1 ≤ d.toInt) (h1 : (if a < b then b else a) = m1) (h2 : (if c < d then d else c) = m2) (h3 : (if m1 < m2 then m2 else m1) = m3) :
    (m3 = (-1 : Int32) → (if a < (0 : Int32) then (if b < (0 : Int32) then (if c < (0 : Int32) then (if d < (0 : Int32) then (0 : Int32) else (1 : Int32)) else (1 : Int32)) else (1 : Int32)) else (1 : Int32)) = (0 : Int32)) ∧ (¬ m3 = (-1 : Int32) → (if a < (0 : Int32) then (if b < (0 : Int32) then (if c < (0 : Int32) then (if d < (0 : Int32) then (0 : Int32) else (1 : Int32)) else (1 : Int32)) else (1 : Int32)) else (1 : Int32)) = (1 : Int32)) := by
  obtain ⟨x1, x2, x3⟩ := own_max h1
  obtain ⟨y1, y2, y3⟩ := own_max h2
  obtain ⟨z1, z2, z3⟩ := own_max h3
  have e : (-1 : Int32).toInt = -1 := rfl
  constructor
  · intro h
    have := congrArg Int32.toInt h
    rw [if_pos (own_neg (by omega)), if_pos (own_neg (by omega)), if_pos (own_neg (by omega)), if_pos (own_neg (by omega))]
  · intro h
    have h' : m3.toInt ≠ -1 := fun q => h (Int32.toInt_inj.mp (q.trans e.symm))
    by_cases qa : a.toInt < 0
    · rw [if_pos (own_neg qa)]
      by_cases qb : b.toInt < 0
      · rw [if_pos (own_neg qb)]
        by_cases qc : c.toInt < 0
        · rw [if_pos (own_neg qc)]
          rw [if_neg (own_pos (by omega))]
        · rw [if_neg (own_pos (by omega))]
      · rw [if_neg (own_pos (by omega))]
    · rw [if_neg (own_pos (by omega))]
theorem own_d1_0 : decode method_2_code 0 = .ok (.iload_n 0, 1) := by decide +kernel
theorem own_d1_1 : decode method_2_code 1 = .ok (.istore_n 1, 1) := by decide +kernel
theorem own_d1_2 : decode method_2_code 2 = .ok (.iload_n 0, 1) := by decide +kernel
theorem own_d1_3 : decode method_2_code 3 = .ok (.ifCond .ge 5, 3) := by decide +kernel
theorem own_d1_6 : decode method_2_code 6 = .ok (.iconst (-1), 1) := by decide +kernel
theorem own_d1_7 : decode method_2_code 7 = .ok (.istore_n 1, 1) := by decide +kernel
theorem own_d1_8 : decode method_2_code 8 = .ok (.iload_n 1, 1) := by decide +kernel
theorem own_d1_9 : decode method_2_code 9 = .ok (.ireturn, 1) := by decide +kernel
theorem own_pn_com_example_method_to_query_methodtoquery_derivation_SpecialParametersAnyPinLaw : plainName "com/example/method_to_query/methodtoquery/derivation/SpecialParametersAnyPinLaw" = true := by first | (simp [plainName, overriddenIn]; done) | decide +kernel
theorem own_ef_rm_index (mM : MethodId) (x0 : Int32) : entryFrame mM #[(.int x0)] 2 = mkF mM 0 #[.val (.int x0), .unset] [] := by first | (simp [entryFrame, mkF, argsToLocals, Value.category]; done) | rfl
def Q_rm_index (Z : State) (p1 : Int32) (h0 : Heap) (n0 : Nat) (vV : Option Value) (hH : Heap) (lA : List Loc) : Prop := vV = some (.int (if p1 < (0 : Int32) then (-1 : Int32) else p1)) ∧ Fr n0 lA ∧ (hH = h0)
set_option maxRecDepth 65536 in
set_option maxHeartbeats 40000000 in
theorem rm_index (lL : Launch) (Z : State) (a0 : Array Value) (hw : ∀ d ∈ tables_1, d.before a0 Z = true) (ws : List Jvm.Cond) (p1 : Int32) (h0 : Heap) (n0 : Nat) (Z0 : n0 ≤ h0.size) :
    MetFree lL (⟨"com/example/method_to_query/methodtoquery/derivation/SpecialParametersAnyPinLaw", "index", "(I)I"⟩ : MethodName) (head1 (Jvm.Cond.code (⟨"com/example/method_to_query/methodtoquery/derivation/SpecialParametersAnyPinLaw", "index", "(I)I"⟩ : MethodName) method_2_code 2 (some .int) :: ws) ({ frames := 0, cells := 0, slots := 0, locals := 0 } : Room)) (fun aA uU => aA = #[(.int p1)] ∧ Z.Warmed39 uU.vm ∧ uU.heap = h0) (fun _ _ _ _ _ => True) (fun _ uU oO uU' => ∃ vV lA, oO = .returned vV ∧ Q_rm_index Z p1 h0 n0 vV uU'.heap lA ∧ FrameEnd uU oO uU' lA ({ frames := 0, cells := 0, slots := 0, locals := 0 } : Room).cells ({ frames := 0, cells := 0, slots := 0, locals := 0 } : Room).slots) := by
  refine MetFree.of_bodySF (plainFor_of_name own_pn_com_example_method_to_query_methodtoquery_derivation_SpecialParametersAnyPinLaw) hisR ?_
  intro pP eE sS mM args below meth cC s₁ Bd hml0 hP hK
  obtain ⟨rfl, hZ, hh⟩ := hP
  have hx := Bd.exec
  have hby := Bd.bytes
  have hml : cC.maxLocals = 2 := hml0
  have hown : sS.vm.findClass "com/example/method_to_query/methodtoquery/derivation/SpecialParametersAnyPinLaw" = some mM.cls := findClass_of_methodNamed Bd.named
  have hnm := (name_of_methodNamed Bd.named Bd.method).1
  have X0 : Stand pP lL eE ({ frames := 0, cells := 0, slots := 0, locals := 0 } : Room) sS mM #[(.int p1)] below meth cC s₁ [] 0 0 := Stand.of_body Bd
  have e0 : s₁.heap = h0 := by rw [← hh, Bd.state]; rfl
  have N0 := Fr.nil n0
  have K0 := Keep.refl h0 ([] : List Addr)
  show own_Fin pP eE below (fun tT oO => ∃ vV lA, oO = .returned vV ∧ Q_rm_index Z p1 h0 n0 vV tT.heap lA ∧ FrameEnd sS oO tT lA ({ frames := 0, cells := 0, slots := 0, locals := 0 } : Room).cells ({ frames := 0, cells := 0, slots := 0, locals := 0 } : Room).slots) (s₁.setTop (entryFrame mM #[(.int p1)] 2))
  refine own_fin (b := s₁.setTop (mkF mM 0 #[.val (.int p1), .unset] [])) (fun tT kK => castTop (own_ef_rm_index mM p1) kK) ?_
  refine own_fin (b := s₁.setTop (mkF mM 3 #[.val (.int p1), .val (.int p1)] [(.int p1)])) (fun tT kK => ?_) ?_
  · show Steps pP.tables eE below (s₁.setTop (mkF mM 0 #[.val (.int p1), .unset] [])) tT
    refine XS.iloadN X0.here hx rfl (Jvm.hb hby own_d1_0) rfl ?_
    show Steps pP.tables eE below (s₁.setTop (mkF mM 1 #[.val (.int p1), .unset] [(.int p1)])) tT
    refine XS.istoreN X0.here hx rfl (Jvm.hb hby own_d1_1) rfl (l' := #[.val (.int p1), .val (.int p1)]) rfl ?_
    show Steps pP.tables eE below (s₁.setTop (mkF mM 2 #[.val (.int p1), .val (.int p1)] [])) tT
    refine XS.iloadN X0.here hx rfl (Jvm.hb hby own_d1_2) rfl ?_
    show Steps pP.tables eE below (s₁.setTop (mkF mM 3 #[.val (.int p1), .val (.int p1)] [(.int p1)])) tT
    exact kK
  by_cases hc3_1_ : p1 < (0 : Int32)
  · refine own_fin (b := s₁.setTop (mkF mM 9 #[.val (.int p1), .val (.int (-1 : Int32))] [(.int (-1 : Int32))])) (fun tT kK => ?_) ?_
    · show Steps pP.tables eE below (s₁.setTop (mkF mM 3 #[.val (.int p1), .val (.int p1)] [(.int p1)])) tT
      refine XS.ifNo X0.here hx rfl (Jvm.hb hby own_d1_3) rfl ((if0 _ _).trans (tlt (hc3_1_ : p1 < (0 : Int32))).2.1) ?_
      show Steps pP.tables eE below (s₁.setTop (mkF mM 6 #[.val (.int p1), .val (.int p1)] [])) tT
      refine XS.iconst X0.here hx rfl (Jvm.hb hby own_d1_6) ?_
      show Steps pP.tables eE below (s₁.setTop (mkF mM 7 #[.val (.int p1), .val (.int p1)] [(.int (-1 : Int32))])) tT
      refine XS.istoreN X0.here hx rfl (Jvm.hb hby own_d1_7) rfl (l' := #[.val (.int p1), .val (.int (-1 : Int32))]) rfl ?_
      show Steps pP.tables eE below (s₁.setTop (mkF mM 8 #[.val (.int p1), .val (.int (-1 : Int32))] [])) tT
      refine XS.iloadN X0.here hx rfl (Jvm.hb hby own_d1_8) rfl ?_
      show Steps pP.tables eE below (s₁.setTop (mkF mM 9 #[.val (.int p1), .val (.int (-1 : Int32))] [(.int (-1 : Int32))])) tT
      exact kK
    obtain ⟨fs, hr, hrun, hended, hW, hsame⟩ := X0.leave (v := some (.int (-1 : Int32))) (fun h => by rw [Bd.returns] at h; cases h)
    refine ⟨_, _, ?_, hrun, hended, _, _, rfl, ?_, ⟨_, rfl⟩, hW, hsame.mono (by decide) (by decide)⟩
    · show Steps pP.tables eE below (s₁.setTop (mkF mM 9 #[.val (.int p1), .val (.int (-1 : Int32))] [(.int (-1 : Int32))])) _
      exact retOut X0 hx Bd.returns rfl (Or.inl ⟨rfl, Or.inl rfl, _, rfl⟩) (Jvm.hb hby own_d1_9) hr
    · show Q_rm_index Z p1 h0 n0 _ s₁.heap _
      rw [e0]
      exact ⟨by rw [if_pos hc3_1_], N0, rfl⟩
  · refine own_fin (b := s₁.setTop (mkF mM 9 #[.val (.int p1), .val (.int p1)] [(.int p1)])) (fun tT kK => ?_) ?_
    · show Steps pP.tables eE below (s₁.setTop (mkF mM 3 #[.val (.int p1), .val (.int p1)] [(.int p1)])) tT
      refine XS.ifYes X0.here hx rfl (pc0 := 3) (pc' := 8) rfl (Jvm.hb hby own_d1_3) rfl ((if0 _ _).trans (flt (hc3_1_ : ¬ (p1 < (0 : Int32)))).2.1) (by decide) (by decide) ?_
      show Steps pP.tables eE below (s₁.setTop (mkF mM 8 #[.val (.int p1), .val (.int p1)] [])) tT
      refine XS.iloadN X0.here hx rfl (Jvm.hb hby own_d1_8) rfl ?_
      show Steps pP.tables eE below (s₁.setTop (mkF mM 9 #[.val (.int p1), .val (.int p1)] [(.int p1)])) tT
      exact kK
    obtain ⟨fs, hr, hrun, hended, hW, hsame⟩ := X0.leave (v := some (.int p1)) (fun h => by rw [Bd.returns] at h; cases h)
    refine ⟨_, _, ?_, hrun, hended, _, _, rfl, ?_, ⟨_, rfl⟩, hW, hsame.mono (by decide) (by decide)⟩
    · show Steps pP.tables eE below (s₁.setTop (mkF mM 9 #[.val (.int p1), .val (.int p1)] [(.int p1)])) _
      exact retOut X0 hx Bd.returns rfl (Or.inl ⟨rfl, Or.inl rfl, _, rfl⟩) (Jvm.hb hby own_d1_9) hr
    · show Q_rm_index Z p1 h0 n0 _ s₁.heap _
      rw [e0]
      exact ⟨by rw [if_neg hc3_1_], N0, rfl⟩
theorem own_d3_0 : decode jdk_30_method_1_code 0 = .ok (.aload_n 0, 1) := by decide +kernel
theorem own_d3_1 : decode jdk_30_method_1_code 1 = .ok (.invokespecial 1, 3) := by decide +kernel
theorem own_d3_4 : decode jdk_30_method_1_code 4 = .ok (.return_, 1) := by decide +kernel
theorem own_pn_java_lang_Record : plainName "java/lang/Record" = true := by first | (simp [plainName, overriddenIn]; done) | decide +kernel
theorem own_ef_rm_rec (mM : MethodId) (x0 : Addr) : entryFrame mM #[(.ref x0)] 1 = mkF mM 0 #[.val (.ref x0)] [] := by first | (simp [entryFrame, mkF, argsToLocals, Value.category]; done) | rfl
def Q_rm_rec (Z : State) (a : Addr) (h0 : Heap) (n0 : Nat) (vV : Option Value) (hH : Heap) (lA : List Loc) : Prop := vV = none ∧ Fr n0 lA ∧ (hH = h0)
set_option maxRecDepth 65536 in
set_option maxHeartbeats 40000000 in
theorem rm_rec (lL : Launch) (Z : State) (a0 : Array Value) (hw : ∀ d ∈ tables_1, d.before a0 Z = true) (ws : List Jvm.Cond) (a : Addr) (h0 : Heap) (n0 : Nat) (Z0 : n0 ≤ h0.size) :
    MetFree lL (⟨"java/lang/Record", "<init>", "()V"⟩ : MethodName) (head1 (Jvm.Cond.code (⟨"java/lang/Record", "<init>", "()V"⟩ : MethodName) jdk_30_method_1_code 1 none :: ws) ({ frames := 1, cells := 0, slots := 0, locals := 12 } : Room)) (fun aA uU => aA = #[(.ref a)] ∧ Z.Warmed39 uU.vm ∧ uU.heap = h0) (fun _ _ _ _ _ => True) (fun _ uU oO uU' => ∃ vV lA, oO = .returned vV ∧ Q_rm_rec Z a h0 n0 vV uU'.heap lA ∧ FrameEnd uU oO uU' lA ({ frames := 1, cells := 0, slots := 0, locals := 12 } : Room).cells ({ frames := 1, cells := 0, slots := 0, locals := 12 } : Room).slots) := by
  refine MetFree.of_bodySF (plainFor_of_name own_pn_java_lang_Record) hisR ?_
  intro pP eE sS mM args below meth cC s₁ Bd hml0 hP hK
  obtain ⟨rfl, hZ, hh⟩ := hP
  have hx := Bd.exec
  have hby := Bd.bytes
  have hml : cC.maxLocals = 1 := hml0
  have hown : sS.vm.findClass "java/lang/Record" = some mM.cls := findClass_of_methodNamed Bd.named
  have hnm := (name_of_methodNamed Bd.named Bd.method).1
  have X0 : Stand pP lL eE ({ frames := 1, cells := 0, slots := 0, locals := 12 } : Room) sS mM #[(.ref a)] below meth cC s₁ [] 0 0 := Stand.of_body Bd
  have e0 : s₁.heap = h0 := by rw [← hh, Bd.state]; rfl
  have N0 := Fr.nil n0
  have K0 := Keep.refl h0 ([] : List Addr)
  show own_Fin pP eE below (fun tT oO => ∃ vV lA, oO = .returned vV ∧ Q_rm_rec Z a h0 n0 vV tT.heap lA ∧ FrameEnd sS oO tT lA ({ frames := 1, cells := 0, slots := 0, locals := 12 } : Room).cells ({ frames := 1, cells := 0, slots := 0, locals := 12 } : Room).slots) (s₁.setTop (entryFrame mM #[(.ref a)] 1))
  refine own_fin (b := s₁.setTop (mkF mM 0 #[.val (.ref a)] [])) (fun tT kK => castTop (own_ef_rm_rec mM a) kK) ?_
  refine own_fin (b := s₁.setTop (mkF mM 1 #[.val (.ref a)] [(.ref a)])) (fun tT kK => ?_) ?_
  · show Steps pP.tables eE below (s₁.setTop (mkF mM 0 #[.val (.ref a)] [])) tT
    refine XS.aloadN X0.here hx rfl (Jvm.hb hby own_d3_0) rfl rfl ?_
    show Steps pP.tables eE below (s₁.setTop (mkF mM 1 #[.val (.ref a)] [(.ref a)])) tT
    exact kK
  obtain ⟨T1_, X1_, e1_, st1_⟩ := initO X0 hx hZ hown (hw _ (List.mem_of_getElem? (i := 15) rfl)) (hw _ (List.mem_of_getElem? (i := 16) rfl)) (hw _ (List.mem_of_getElem? (i := 17) rfl)) e0 (g := (mkF mM 1 #[.val (.ref a)] [(.ref a)])) rfl (by rw [hml]; rfl) rfl (Jvm.hb hby own_d3_1) (by decide) (W := 0) (by show 2 * 0 + _ ≤ _; exact Nat.le_of_eq rfl) (by decide)
  refine own_fin st1_ ?_
  show own_Fin pP eE below _ (T1_.setTop (mkF mM 4 #[.val (.ref a)] []))
  obtain ⟨fs, hr, hrun, hended, hW, hsame⟩ := X1_.leave (v := none) (fun _ => rfl)
  refine ⟨_, _, ?_, hrun, hended, _, _, rfl, ?_, ⟨_, rfl⟩, hW, hsame.mono (by decide) (by decide)⟩
  · show Steps pP.tables eE below (T1_.setTop (mkF mM 4 #[.val (.ref a)] [])) _
    exact X1_.returnOut hx Bd.returns (Jvm.hb hby own_d3_4) hr
  · show Q_rm_rec Z a h0 n0 _ T1_.heap _
    rw [e1_]
    exact ⟨rfl, N0, rfl⟩
theorem own_d2_0 : decode prog_39_method_1_code 0 = .ok (.aload_n 0, 1) := by decide +kernel
theorem own_d2_1 : decode prog_39_method_1_code 1 = .ok (.invokespecial 1, 3) := by decide +kernel
theorem own_pd0 : parseMethodDescriptor "()V" = some ⟨[], none⟩ := by decide +kernel
theorem own_d2_4 : decode prog_39_method_1_code 4 = .ok (.aload_n 0, 1) := by decide +kernel
theorem own_d2_5 : decode prog_39_method_1_code 5 = .ok (.iload_n 1, 1) := by decide +kernel
theorem own_d2_6 : decode prog_39_method_1_code 6 = .ok (.putfield 7, 3) := by decide +kernel
theorem own_d2_9 : decode prog_39_method_1_code 9 = .ok (.aload_n 0, 1) := by decide +kernel
theorem own_d2_10 : decode prog_39_method_1_code 10 = .ok (.iload_n 2, 1) := by decide +kernel
theorem own_d2_11 : decode prog_39_method_1_code 11 = .ok (.putfield 13, 3) := by decide +kernel
theorem own_d2_14 : decode prog_39_method_1_code 14 = .ok (.aload_n 0, 1) := by decide +kernel
theorem own_d2_15 : decode prog_39_method_1_code 15 = .ok (.iload_n 3, 1) := by decide +kernel
theorem own_d2_16 : decode prog_39_method_1_code 16 = .ok (.putfield 16, 3) := by decide +kernel
theorem own_d2_19 : decode prog_39_method_1_code 19 = .ok (.aload_n 0, 1) := by decide +kernel
theorem own_d2_20 : decode prog_39_method_1_code 20 = .ok (.iload 4, 2) := by decide +kernel
theorem own_d2_22 : decode prog_39_method_1_code 22 = .ok (.putfield 19, 3) := by decide +kernel
theorem own_d2_25 : decode prog_39_method_1_code 25 = .ok (.aload_n 0, 1) := by decide +kernel
theorem own_d2_26 : decode prog_39_method_1_code 26 = .ok (.iload 5, 2) := by decide +kernel
theorem own_d2_28 : decode prog_39_method_1_code 28 = .ok (.putfield 22, 3) := by decide +kernel
theorem own_d2_31 : decode prog_39_method_1_code 31 = .ok (.return_, 1) := by decide +kernel
theorem own_pn_com_example_method_to_query_methodtoquery_derivation_SpecialParameters : plainName "com/example/method_to_query/methodtoquery/derivation/SpecialParameters" = true := by first | (simp [plainName, overriddenIn]; done) | decide +kernel
theorem own_ef_rm_init (mM : MethodId) (x0 : Addr) (x1 : Int32) (x2 : Int32) (x3 : Int32) (x4 : Int32) (x5 : Int32) : entryFrame mM #[(.ref x0), (.int x1), (.int x2), (.int x3), (.int x4), (.int x5)] 6 = mkF mM 0 #[.val (.ref x0), .val (.int x1), .val (.int x2), .val (.int x3), .val (.int x4), .val (.int x5)] [] := by first | (simp [entryFrame, mkF, argsToLocals, Value.category]; done) | rfl
def Q_rm_init (Z : State) (a : Addr) (p1 : Int32) (p2 : Int32) (p3 : Int32) (p4 : Int32) (p5 : Int32) (h0 : Heap) (n0 : Nat) (vV : Option Value) (hH : Heap) (lA : List Loc) : Prop := vV = none ∧ Fr n0 lA ∧ (Keep h0 hH [a]) ∧ (Exa Z hH a "com/example/method_to_query/methodtoquery/derivation/SpecialParameters") ∧ (Fld Z hH a "com/example/method_to_query/methodtoquery/derivation/SpecialParameters" "criteria" "I" (.int p1)) ∧ (Fld Z hH a "com/example/method_to_query/methodtoquery/derivation/SpecialParameters" "pageable" "I" (.int p2)) ∧ (Fld Z hH a "com/example/method_to_query/methodtoquery/derivation/SpecialParameters" "sort" "I" (.int p3)) ∧ (Fld Z hH a "com/example/method_to_query/methodtoquery/derivation/SpecialParameters" "limit" "I" (.int p4)) ∧ (Fld Z hH a "com/example/method_to_query/methodtoquery/derivation/SpecialParameters" "type" "I" (.int p5))
set_option maxRecDepth 65536 in
set_option maxHeartbeats 40000000 in
theorem rm_init (lL : Launch) (Z : State) (a0 : Array Value) (hw : ∀ d ∈ tables_1, d.before a0 Z = true) (ws : List Jvm.Cond) (a : Addr) (p1 : Int32) (p2 : Int32) (p3 : Int32) (p4 : Int32) (p5 : Int32) (h0 : Heap) (n0 : Nat) (Z0 : n0 ≤ h0.size) (Ea : Exa Z h0 a "com/example/method_to_query/methodtoquery/derivation/SpecialParameters") (F1 : Fld Z h0 a "com/example/method_to_query/methodtoquery/derivation/SpecialParameters" "criteria" "I" (.int (0 : Int32))) (F2 : Fld Z h0 a "com/example/method_to_query/methodtoquery/derivation/SpecialParameters" "pageable" "I" (.int (0 : Int32))) (F3 : Fld Z h0 a "com/example/method_to_query/methodtoquery/derivation/SpecialParameters" "sort" "I" (.int (0 : Int32))) (F4 : Fld Z h0 a "com/example/method_to_query/methodtoquery/derivation/SpecialParameters" "limit" "I" (.int (0 : Int32))) (F5 : Fld Z h0 a "com/example/method_to_query/methodtoquery/derivation/SpecialParameters" "type" "I" (.int (0 : Int32))) (ga : n0 ≤ a) :
    MetFree lL (⟨"com/example/method_to_query/methodtoquery/derivation/SpecialParameters", "<init>", "(IIIII)V"⟩ : MethodName) (head1 (Jvm.Cond.code (⟨"com/example/method_to_query/methodtoquery/derivation/SpecialParameters", "<init>", "(IIIII)V"⟩ : MethodName) prog_39_method_1_code 6 none :: ws) ({ frames := 2, cells := 0, slots := 0, locals := 24 } : Room)) (fun aA uU => aA = #[(.ref a), (.int p1), (.int p2), (.int p3), (.int p4), (.int p5)] ∧ Z.Warmed39 uU.vm ∧ uU.heap = h0) (fun _ _ _ _ _ => True) (fun _ uU oO uU' => ∃ vV lA, oO = .returned vV ∧ Q_rm_init Z a p1 p2 p3 p4 p5 h0 n0 vV uU'.heap lA ∧ FrameEnd uU oO uU' lA ({ frames := 2, cells := 0, slots := 0, locals := 24 } : Room).cells ({ frames := 2, cells := 0, slots := 0, locals := 24 } : Room).slots) := by
  refine MetFree.of_bodySF (plainFor_of_name own_pn_com_example_method_to_query_methodtoquery_derivation_SpecialParameters) hisR ?_
  intro pP eE sS mM args below meth cC s₁ Bd hml0 hP hK
  obtain ⟨rfl, hZ, hh⟩ := hP
  have hx := Bd.exec
  have hby := Bd.bytes
  have hml : cC.maxLocals = 6 := hml0
  have hown : sS.vm.findClass "com/example/method_to_query/methodtoquery/derivation/SpecialParameters" = some mM.cls := findClass_of_methodNamed Bd.named
  have hnm := (name_of_methodNamed Bd.named Bd.method).1
  have X0 : Stand pP lL eE ({ frames := 2, cells := 0, slots := 0, locals := 24 } : Room) sS mM #[(.ref a), (.int p1), (.int p2), (.int p3), (.int p4), (.int p5)] below meth cC s₁ [] 0 0 := Stand.of_body Bd
  have e0 : s₁.heap = h0 := by rw [← hh, Bd.state]; rfl
  have N0 := Fr.nil n0
  have K0 := Keep.refl h0 [a]
  show own_Fin pP eE below (fun tT oO => ∃ vV lA, oO = .returned vV ∧ Q_rm_init Z a p1 p2 p3 p4 p5 h0 n0 vV tT.heap lA ∧ FrameEnd sS oO tT lA ({ frames := 2, cells := 0, slots := 0, locals := 24 } : Room).cells ({ frames := 2, cells := 0, slots := 0, locals := 24 } : Room).slots) (s₁.setTop (entryFrame mM #[(.ref a), (.int p1), (.int p2), (.int p3), (.int p4), (.int p5)] 6))
  refine own_fin (b := s₁.setTop (mkF mM 0 #[.val (.ref a), .val (.int p1), .val (.int p2), .val (.int p3), .val (.int p4), .val (.int p5)] [])) (fun tT kK => castTop (own_ef_rm_init mM a p1 p2 p3 p4 p5) kK) ?_
  refine own_fin (b := s₁.setTop (mkF mM 1 #[.val (.ref a), .val (.int p1), .val (.int p2), .val (.int p3), .val (.int p4), .val (.int p5)] [(.ref a)])) (fun tT kK => ?_) ?_
  · show Steps pP.tables eE below (s₁.setTop (mkF mM 0 #[.val (.ref a), .val (.int p1), .val (.int p2), .val (.int p3), .val (.int p4), .val (.int p5)] [])) tT
    refine XS.aloadN X0.here hx rfl (Jvm.hb hby own_d2_0) rfl rfl ?_
    show Steps pP.tables eE below (s₁.setTop (mkF mM 1 #[.val (.ref a), .val (.int p1), .val (.int p2), .val (.int p3), .val (.int p4), .val (.int p5)] [(.ref a)])) tT
    exact kK
  obtain ⟨_, _, ⟨T1_, L1_, k1_, n1_⟩, -, X1_, ⟨Lc1_, hQ1_, l1_, y1_, z1_⟩, st1_⟩ := X0.specialBack hx (y := (⟨"java/lang/Record", "<init>", "()V"⟩ : MethodName)) rfl hown (mvT hZ (hw _ (List.mem_of_getElem? (i := 10) rfl))) (mvT hZ (hw _ (List.mem_of_getElem? (i := 11) rfl))) (mvT hZ (hw _ (List.mem_of_getElem? (i := 14) rfl))) (by decide) (backOf (W := 0) (rm_rec lL Z a0 hw [] a h0 n0 (Nat.le_trans Z0 K0.1) ) hZ (hw _ (List.mem_of_getElem? (i := 14) rfl)) (hw _ (List.mem_of_getElem? (i := 13) rfl)) (by decide) (by decide)) (g := (mkF mM 1 #[.val (.ref a), .val (.int p1), .val (.int p2), .val (.int p3), .val (.int p4), .val (.int p5)] [(.ref a)])) rfl (by rw [hml]; rfl) (Steps.refl _) (a := a) (argsL := []) (rest := []) (lenOf own_pd0 rfl) rfl (by show 2 * 0 + _ ≤ _; exact Nat.le_of_eq rfl) (Jvm.hb hby own_d2_1) (fun _ _ => ⟨rfl, e0, (by decide : 0 + 0 ≤ _), (by decide : 0 + 0 ≤ _)⟩)
  dsimp only [Pt.U, Pt.locs, Pt.cells, Pt.slots] at X1_ l1_ y1_ z1_ st1_ hQ1_
  subst l1_ y1_ z1_
  obtain ⟨rfl, N1_q, p1__0⟩ := hQ1_
  have N1_ := Fr.app N0 N1_q
  refine own_fin (fun tT kK => st1_.trans kK) ?_
  show own_Fin pP eE below _ (T1_.setTop (mkF mM 4 #[.val (.ref a), .val (.int p1), .val (.int p2), .val (.int p3), .val (.int p4), .val (.int p5)] []))
  refine own_fin (b := T1_.setTop (mkF mM 6 #[.val (.ref a), .val (.int p1), .val (.int p2), .val (.int p3), .val (.int p4), .val (.int p5)] [(.int p1), (.ref a)])) (fun tT kK => ?_) ?_
  · show Steps pP.tables eE below (T1_.setTop (mkF mM 4 #[.val (.ref a), .val (.int p1), .val (.int p2), .val (.int p3), .val (.int p4), .val (.int p5)] [])) tT
    refine XS.aloadN X1_.here hx rfl (Jvm.hb hby own_d2_4) rfl rfl ?_
    show Steps pP.tables eE below (T1_.setTop (mkF mM 5 #[.val (.ref a), .val (.int p1), .val (.int p2), .val (.int p3), .val (.int p4), .val (.int p5)] [(.ref a)])) tT
    refine XS.iloadN X1_.here hx rfl (Jvm.hb hby own_d2_5) rfl ?_
    show Steps pP.tables eE below (T1_.setTop (mkF mM 6 #[.val (.ref a), .val (.int p1), .val (.int p2), .val (.int p3), .val (.int p4), .val (.int p5)] [(.int p1), (.ref a)])) tT
    exact kK
  obtain ⟨T2_, h2_, X2_, e2_, W2_, st2_⟩ := putF X1_ hx hZ hown (host := "") (Or.inl (hw _ (List.mem_of_getElem? (i := 18) rfl))) Via.refl p1__0 F1 Ea (Or.inr ⟨(hw _ (List.mem_of_getElem? (i := 19) rfl)), rfl, hnm⟩) (hw _ (List.mem_of_getElem? (i := 5) rfl)) (ty := .int) (by decide) rfl rfl (g := (mkF mM 6 #[.val (.ref a), .val (.int p1), .val (.int p2), .val (.int p3), .val (.int p4), .val (.int p5)] [(.int p1), (.ref a)])) rfl rfl (Jvm.hb hby own_d2_6)
  have Fw2_ := F1.same W2_
  have fc3_ := Ea.wr W2_
  have fc4_ := F2.other W2_ (Or.inr (slot_ne (Or.inr (hw _ (List.mem_of_getElem? (i := 21) rfl))) (Or.inr (hw _ (List.mem_of_getElem? (i := 19) rfl))) (by decide) (t := .int) (t' := .int) (by decide) (by decide)))
  have fc5_ := F3.other W2_ (Or.inr (slot_ne (Or.inr (hw _ (List.mem_of_getElem? (i := 23) rfl))) (Or.inr (hw _ (List.mem_of_getElem? (i := 19) rfl))) (by decide) (t := .int) (t' := .int) (by decide) (by decide)))
  have fc6_ := F4.other W2_ (Or.inr (slot_ne (Or.inr (hw _ (List.mem_of_getElem? (i := 25) rfl))) (Or.inr (hw _ (List.mem_of_getElem? (i := 19) rfl))) (by decide) (t := .int) (t' := .int) (by decide) (by decide)))
  have fc7_ := F5.other W2_ (Or.inr (slot_ne (Or.inr (hw _ (List.mem_of_getElem? (i := 27) rfl))) (Or.inr (hw _ (List.mem_of_getElem? (i := 19) rfl))) (by decide) (t := .int) (t' := .int) (by decide) (by decide)))
  have K2_ := K0.wr W2_ (Or.inl (List.mem_of_getElem? (i := 0) rfl))
  have N2_ := Fr.snoc X2_ N1_ ga
  refine own_fin st2_ ?_
  show own_Fin pP eE below _ (T2_.setTop (mkF mM 9 #[.val (.ref a), .val (.int p1), .val (.int p2), .val (.int p3), .val (.int p4), .val (.int p5)] []))
  refine own_fin (b := T2_.setTop (mkF mM 11 #[.val (.ref a), .val (.int p1), .val (.int p2), .val (.int p3), .val (.int p4), .val (.int p5)] [(.int p2), (.ref a)])) (fun tT kK => ?_) ?_
  · show Steps pP.tables eE below (T2_.setTop (mkF mM 9 #[.val (.ref a), .val (.int p1), .val (.int p2), .val (.int p3), .val (.int p4), .val (.int p5)] [])) tT
    refine XS.aloadN X2_.here hx rfl (Jvm.hb hby own_d2_9) rfl rfl ?_
    show Steps pP.tables eE below (T2_.setTop (mkF mM 10 #[.val (.ref a), .val (.int p1), .val (.int p2), .val (.int p3), .val (.int p4), .val (.int p5)] [(.ref a)])) tT
    refine XS.iloadN X2_.here hx rfl (Jvm.hb hby own_d2_10) rfl ?_
    show Steps pP.tables eE below (T2_.setTop (mkF mM 11 #[.val (.ref a), .val (.int p1), .val (.int p2), .val (.int p3), .val (.int p4), .val (.int p5)] [(.int p2), (.ref a)])) tT
    exact kK
  obtain ⟨T8_, h8_, X8_, e8_, W8_, st8_⟩ := putF X2_ hx hZ hown (host := "") (Or.inl (hw _ (List.mem_of_getElem? (i := 20) rfl))) Via.refl e2_ fc4_ fc3_ (Or.inr ⟨(hw _ (List.mem_of_getElem? (i := 21) rfl)), rfl, hnm⟩) (hw _ (List.mem_of_getElem? (i := 5) rfl)) (ty := .int) (by decide) rfl rfl (g := (mkF mM 11 #[.val (.ref a), .val (.int p1), .val (.int p2), .val (.int p3), .val (.int p4), .val (.int p5)] [(.int p2), (.ref a)])) rfl rfl (Jvm.hb hby own_d2_11)
  have Fw8_ := fc4_.same W8_
  have fc9_ := fc3_.wr W8_
  have fc10_ := Fw2_.other W8_ (Or.inr (slot_ne (Or.inr (hw _ (List.mem_of_getElem? (i := 19) rfl))) (Or.inr (hw _ (List.mem_of_getElem? (i := 21) rfl))) (by decide) (t := .int) (t' := .int) (by decide) (by decide)))
  have fc11_ := fc5_.other W8_ (Or.inr (slot_ne (Or.inr (hw _ (List.mem_of_getElem? (i := 23) rfl))) (Or.inr (hw _ (List.mem_of_getElem? (i := 21) rfl))) (by decide) (t := .int) (t' := .int) (by decide) (by decide)))
  have fc12_ := fc6_.other W8_ (Or.inr (slot_ne (Or.inr (hw _ (List.mem_of_getElem? (i := 25) rfl))) (Or.inr (hw _ (List.mem_of_getElem? (i := 21) rfl))) (by decide) (t := .int) (t' := .int) (by decide) (by decide)))
  have fc13_ := fc7_.other W8_ (Or.inr (slot_ne (Or.inr (hw _ (List.mem_of_getElem? (i := 27) rfl))) (Or.inr (hw _ (List.mem_of_getElem? (i := 21) rfl))) (by decide) (t := .int) (t' := .int) (by decide) (by decide)))
  have K8_ := K2_.wr W8_ (Or.inl (List.mem_of_getElem? (i := 0) rfl))
  have N8_ := Fr.snoc X8_ N2_ ga
  refine own_fin st8_ ?_
  show own_Fin pP eE below _ (T8_.setTop (mkF mM 14 #[.val (.ref a), .val (.int p1), .val (.int p2), .val (.int p3), .val (.int p4), .val (.int p5)] []))
  refine own_fin (b := T8_.setTop (mkF mM 16 #[.val (.ref a), .val (.int p1), .val (.int p2), .val (.int p3), .val (.int p4), .val (.int p5)] [(.int p3), (.ref a)])) (fun tT kK => ?_) ?_
  · show Steps pP.tables eE below (T8_.setTop (mkF mM 14 #[.val (.ref a), .val (.int p1), .val (.int p2), .val (.int p3), .val (.int p4), .val (.int p5)] [])) tT
    refine XS.aloadN X8_.here hx rfl (Jvm.hb hby own_d2_14) rfl rfl ?_
    show Steps pP.tables eE below (T8_.setTop (mkF mM 15 #[.val (.ref a), .val (.int p1), .val (.int p2), .val (.int p3), .val (.int p4), .val (.int p5)] [(.ref a)])) tT
    refine XS.iloadN X8_.here hx rfl (Jvm.hb hby own_d2_15) rfl ?_
    show Steps pP.tables eE below (T8_.setTop (mkF mM 16 #[.val (.ref a), .val (.int p1), .val (.int p2), .val (.int p3), .val (.int p4), .val (.int p5)] [(.int p3), (.ref a)])) tT
    exact kK
  obtain ⟨T14_, h14_, X14_, e14_, W14_, st14_⟩ := putF X8_ hx hZ hown (host := "") (Or.inl (hw _ (List.mem_of_getElem? (i := 22) rfl))) Via.refl e8_ fc11_ fc9_ (Or.inr ⟨(hw _ (List.mem_of_getElem? (i := 23) rfl)), rfl, hnm⟩) (hw _ (List.mem_of_getElem? (i := 5) rfl)) (ty := .int) (by decide) rfl rfl (g := (mkF mM 16 #[.val (.ref a), .val (.int p1), .val (.int p2), .val (.int p3), .val (.int p4), .val (.int p5)] [(.int p3), (.ref a)])) rfl rfl (Jvm.hb hby own_d2_16)
  have Fw14_ := fc11_.same W14_
  have fc15_ := fc9_.wr W14_
  have fc16_ := fc10_.other W14_ (Or.inr (slot_ne (Or.inr (hw _ (List.mem_of_getElem? (i := 19) rfl))) (Or.inr (hw _ (List.mem_of_getElem? (i := 23) rfl))) (by decide) (t := .int) (t' := .int) (by decide) (by decide)))
  have fc17_ := Fw8_.other W14_ (Or.inr (slot_ne (Or.inr (hw _ (List.mem_of_getElem? (i := 21) rfl))) (Or.inr (hw _ (List.mem_of_getElem? (i := 23) rfl))) (by decide) (t := .int) (t' := .int) (by decide) (by decide)))
  have fc18_ := fc12_.other W14_ (Or.inr (slot_ne (Or.inr (hw _ (List.mem_of_getElem? (i := 25) rfl))) (Or.inr (hw _ (List.mem_of_getElem? (i := 23) rfl))) (by decide) (t := .int) (t' := .int) (by decide) (by decide)))
  have fc19_ := fc13_.other W14_ (Or.inr (slot_ne (Or.inr (hw _ (List.mem_of_getElem? (i := 27) rfl))) (Or.inr (hw _ (List.mem_of_getElem? (i := 23) rfl))) (by decide) (t := .int) (t' := .int) (by decide) (by decide)))
  have K14_ := K8_.wr W14_ (Or.inl (List.mem_of_getElem? (i := 0) rfl))
  have N14_ := Fr.snoc X14_ N8_ ga
  refine own_fin st14_ ?_
  show own_Fin pP eE below _ (T14_.setTop (mkF mM 19 #[.val (.ref a), .val (.int p1), .val (.int p2), .val (.int p3), .val (.int p4), .val (.int p5)] []))
  refine own_fin (b := T14_.setTop (mkF mM 22 #[.val (.ref a), .val (.int p1), .val (.int p2), .val (.int p3), .val (.int p4), .val (.int p5)] [(.int p4), (.ref a)])) (fun tT kK => ?_) ?_
  · show Steps pP.tables eE below (T14_.setTop (mkF mM 19 #[.val (.ref a), .val (.int p1), .val (.int p2), .val (.int p3), .val (.int p4), .val (.int p5)] [])) tT
    refine XS.aloadN X14_.here hx rfl (Jvm.hb hby own_d2_19) rfl rfl ?_
    show Steps pP.tables eE below (T14_.setTop (mkF mM 20 #[.val (.ref a), .val (.int p1), .val (.int p2), .val (.int p3), .val (.int p4), .val (.int p5)] [(.ref a)])) tT
    refine XS.iload X14_.here hx rfl (Jvm.hb hby own_d2_20) rfl ?_
    show Steps pP.tables eE below (T14_.setTop (mkF mM 22 #[.val (.ref a), .val (.int p1), .val (.int p2), .val (.int p3), .val (.int p4), .val (.int p5)] [(.int p4), (.ref a)])) tT
    exact kK
  obtain ⟨T20_, h20_, X20_, e20_, W20_, st20_⟩ := putF X14_ hx hZ hown (host := "") (Or.inl (hw _ (List.mem_of_getElem? (i := 24) rfl))) Via.refl e14_ fc18_ fc15_ (Or.inr ⟨(hw _ (List.mem_of_getElem? (i := 25) rfl)), rfl, hnm⟩) (hw _ (List.mem_of_getElem? (i := 5) rfl)) (ty := .int) (by decide) rfl rfl (g := (mkF mM 22 #[.val (.ref a), .val (.int p1), .val (.int p2), .val (.int p3), .val (.int p4), .val (.int p5)] [(.int p4), (.ref a)])) rfl rfl (Jvm.hb hby own_d2_22)
  have Fw20_ := fc18_.same W20_
  have fc21_ := fc15_.wr W20_
  have fc22_ := fc16_.other W20_ (Or.inr (slot_ne (Or.inr (hw _ (List.mem_of_getElem? (i := 19) rfl))) (Or.inr (hw _ (List.mem_of_getElem? (i := 25) rfl))) (by decide) (t := .int) (t' := .int) (by decide) (by decide)))
  have fc23_ := fc17_.other W20_ (Or.inr (slot_ne (Or.inr (hw _ (List.mem_of_getElem? (i := 21) rfl))) (Or.inr (hw _ (List.mem_of_getElem? (i := 25) rfl))) (by decide) (t := .int) (t' := .int) (by decide) (by decide)))
  have fc24_ := Fw14_.other W20_ (Or.inr (slot_ne (Or.inr (hw _ (List.mem_of_getElem? (i := 23) rfl))) (Or.inr (hw _ (List.mem_of_getElem? (i := 25) rfl))) (by decide) (t := .int) (t' := .int) (by decide) (by decide)))
  have fc25_ := fc19_.other W20_ (Or.inr (slot_ne (Or.inr (hw _ (List.mem_of_getElem? (i := 27) rfl))) (Or.inr (hw _ (List.mem_of_getElem? (i := 25) rfl))) (by decide) (t := .int) (t' := .int) (by decide) (by decide)))
  have K20_ := K14_.wr W20_ (Or.inl (List.mem_of_getElem? (i := 0) rfl))
  have N20_ := Fr.snoc X20_ N14_ ga
  refine own_fin st20_ ?_
  show own_Fin pP eE below _ (T20_.setTop (mkF mM 25 #[.val (.ref a), .val (.int p1), .val (.int p2), .val (.int p3), .val (.int p4), .val (.int p5)] []))
  refine own_fin (b := T20_.setTop (mkF mM 28 #[.val (.ref a), .val (.int p1), .val (.int p2), .val (.int p3), .val (.int p4), .val (.int p5)] [(.int p5), (.ref a)])) (fun tT kK => ?_) ?_
  · show Steps pP.tables eE below (T20_.setTop (mkF mM 25 #[.val (.ref a), .val (.int p1), .val (.int p2), .val (.int p3), .val (.int p4), .val (.int p5)] [])) tT
    refine XS.aloadN X20_.here hx rfl (Jvm.hb hby own_d2_25) rfl rfl ?_
    show Steps pP.tables eE below (T20_.setTop (mkF mM 26 #[.val (.ref a), .val (.int p1), .val (.int p2), .val (.int p3), .val (.int p4), .val (.int p5)] [(.ref a)])) tT
    refine XS.iload X20_.here hx rfl (Jvm.hb hby own_d2_26) rfl ?_
    show Steps pP.tables eE below (T20_.setTop (mkF mM 28 #[.val (.ref a), .val (.int p1), .val (.int p2), .val (.int p3), .val (.int p4), .val (.int p5)] [(.int p5), (.ref a)])) tT
    exact kK
  obtain ⟨T26_, h26_, X26_, e26_, W26_, st26_⟩ := putF X20_ hx hZ hown (host := "") (Or.inl (hw _ (List.mem_of_getElem? (i := 26) rfl))) Via.refl e20_ fc25_ fc21_ (Or.inr ⟨(hw _ (List.mem_of_getElem? (i := 27) rfl)), rfl, hnm⟩) (hw _ (List.mem_of_getElem? (i := 5) rfl)) (ty := .int) (by decide) rfl rfl (g := (mkF mM 28 #[.val (.ref a), .val (.int p1), .val (.int p2), .val (.int p3), .val (.int p4), .val (.int p5)] [(.int p5), (.ref a)])) rfl rfl (Jvm.hb hby own_d2_28)
  have Fw26_ := fc25_.same W26_
  have fc27_ := fc21_.wr W26_
  have fc28_ := fc22_.other W26_ (Or.inr (slot_ne (Or.inr (hw _ (List.mem_of_getElem? (i := 19) rfl))) (Or.inr (hw _ (List.mem_of_getElem? (i := 27) rfl))) (by decide) (t := .int) (t' := .int) (by decide) (by decide)))
  have fc29_ := fc23_.other W26_ (Or.inr (slot_ne (Or.inr (hw _ (List.mem_of_getElem? (i := 21) rfl))) (Or.inr (hw _ (List.mem_of_getElem? (i := 27) rfl))) (by decide) (t := .int) (t' := .int) (by decide) (by decide)))
  have fc30_ := fc24_.other W26_ (Or.inr (slot_ne (Or.inr (hw _ (List.mem_of_getElem? (i := 23) rfl))) (Or.inr (hw _ (List.mem_of_getElem? (i := 27) rfl))) (by decide) (t := .int) (t' := .int) (by decide) (by decide)))
  have fc31_ := Fw20_.other W26_ (Or.inr (slot_ne (Or.inr (hw _ (List.mem_of_getElem? (i := 25) rfl))) (Or.inr (hw _ (List.mem_of_getElem? (i := 27) rfl))) (by decide) (t := .int) (t' := .int) (by decide) (by decide)))
  have K26_ := K20_.wr W26_ (Or.inl (List.mem_of_getElem? (i := 0) rfl))
  have N26_ := Fr.snoc X26_ N20_ ga
  refine own_fin st26_ ?_
  show own_Fin pP eE below _ (T26_.setTop (mkF mM 31 #[.val (.ref a), .val (.int p1), .val (.int p2), .val (.int p3), .val (.int p4), .val (.int p5)] []))
  obtain ⟨fs, hr, hrun, hended, hW, hsame⟩ := X26_.leave (v := none) (fun _ => rfl)
  refine ⟨_, _, ?_, hrun, hended, _, _, rfl, ?_, ⟨_, rfl⟩, hW, hsame.mono (by decide) (by decide)⟩
  · show Steps pP.tables eE below (T26_.setTop (mkF mM 31 #[.val (.ref a), .val (.int p1), .val (.int p2), .val (.int p3), .val (.int p4), .val (.int p5)] [])) _
    exact X26_.returnOut hx Bd.returns (Jvm.hb hby own_d2_31) hr
  · show Q_rm_init Z a p1 p2 p3 p4 p5 h0 n0 _ T26_.heap _
    rw [e26_]
    exact ⟨rfl, N26_, K26_, fc27_, fc28_, fc29_, fc30_, fc31_, Fw26_⟩
theorem own_d5_0 : decode jdk_29_method_65_code 0 = .ok (.iload_n 0, 1) := by decide +kernel
theorem own_d5_1 : decode jdk_29_method_65_code 1 = .ok (.iload_n 1, 1) := by decide +kernel
theorem own_d5_2 : decode jdk_29_method_65_code 2 = .ok (.if_icmp .lt 7, 3) := by decide +kernel
theorem own_d5_9 : decode jdk_29_method_65_code 9 = .ok (.iload_n 1, 1) := by decide +kernel
theorem own_d5_10 : decode jdk_29_method_65_code 10 = .ok (.ireturn, 1) := by decide +kernel
theorem own_d5_5 : decode jdk_29_method_65_code 5 = .ok (.iload_n 0, 1) := by decide +kernel
theorem own_d5_6 : decode jdk_29_method_65_code 6 = .ok (.goto 4, 3) := by decide +kernel
theorem own_ef_rm_max (mM : MethodId) (x0 : Int32) (x1 : Int32) : entryFrame mM #[(.int x0), (.int x1)] 2 = mkF mM 0 #[.val (.int x0), .val (.int x1)] [] := by first | (simp [entryFrame, mkF, argsToLocals, Value.category]; done) | rfl
def Q_rm_max (Z : State) (p1 : Int32) (p2 : Int32) (h0 : Heap) (n0 : Nat) (vV : Option Value) (hH : Heap) (lA : List Loc) : Prop := vV = some (.int (if p1 < p2 then p2 else p1)) ∧ Fr n0 lA ∧ (hH = h0)
set_option maxRecDepth 65536 in
set_option maxHeartbeats 40000000 in
theorem rm_max (lL : Launch) (Z : State) (a0 : Array Value) (hw : ∀ d ∈ tables_1, d.before a0 Z = true) (ws : List Jvm.Cond) (p1 : Int32) (p2 : Int32) (h0 : Heap) (n0 : Nat) (Z0 : n0 ≤ h0.size) :
    MetFree lL (⟨"java/lang/Math", "max", "(II)I"⟩ : MethodName) (head1 (Jvm.Cond.code (⟨"java/lang/Math", "max", "(II)I"⟩ : MethodName) jdk_29_method_65_code 2 (some .int) :: ws) ({ frames := 0, cells := 0, slots := 0, locals := 0 } : Room)) (fun aA uU => aA = #[(.int p1), (.int p2)] ∧ Z.Warmed39 uU.vm ∧ uU.heap = h0) (fun _ _ _ _ _ => True) (fun _ uU oO uU' => ∃ vV lA, oO = .returned vV ∧ Q_rm_max Z p1 p2 h0 n0 vV uU'.heap lA ∧ FrameEnd uU oO uU' lA ({ frames := 0, cells := 0, slots := 0, locals := 0 } : Room).cells ({ frames := 0, cells := 0, slots := 0, locals := 0 } : Room).slots) := by
  refine MetFree.of_bodySF (Jvm.Free.JP.mathPlain rfl (by decide +kernel)) hisR ?_
  intro pP eE sS mM args below meth cC s₁ Bd hml0 hP hK
  obtain ⟨rfl, hZ, hh⟩ := hP
  have hx := Bd.exec
  have hby := Bd.bytes
  have hml : cC.maxLocals = 2 := hml0
  have hown : sS.vm.findClass "java/lang/Math" = some mM.cls := findClass_of_methodNamed Bd.named
  have hnm := (name_of_methodNamed Bd.named Bd.method).1
  have X0 : Stand pP lL eE ({ frames := 0, cells := 0, slots := 0, locals := 0 } : Room) sS mM #[(.int p1), (.int p2)] below meth cC s₁ [] 0 0 := Stand.of_body Bd
  have e0 : s₁.heap = h0 := by rw [← hh, Bd.state]; rfl
  have N0 := Fr.nil n0
  have K0 := Keep.refl h0 ([] : List Addr)
  show own_Fin pP eE below (fun tT oO => ∃ vV lA, oO = .returned vV ∧ Q_rm_max Z p1 p2 h0 n0 vV tT.heap lA ∧ FrameEnd sS oO tT lA ({ frames := 0, cells := 0, slots := 0, locals := 0 } : Room).cells ({ frames := 0, cells := 0, slots := 0, locals := 0 } : Room).slots) (s₁.setTop (entryFrame mM #[(.int p1), (.int p2)] 2))
  refine own_fin (b := s₁.setTop (mkF mM 0 #[.val (.int p1), .val (.int p2)] [])) (fun tT kK => castTop (own_ef_rm_max mM p1 p2) kK) ?_
  refine own_fin (b := s₁.setTop (mkF mM 2 #[.val (.int p1), .val (.int p2)] [(.int p2), (.int p1)])) (fun tT kK => ?_) ?_
  · show Steps pP.tables eE below (s₁.setTop (mkF mM 0 #[.val (.int p1), .val (.int p2)] [])) tT
    refine XS.iloadN X0.here hx rfl (Jvm.hb hby own_d5_0) rfl ?_
    show Steps pP.tables eE below (s₁.setTop (mkF mM 1 #[.val (.int p1), .val (.int p2)] [(.int p1)])) tT
    refine XS.iloadN X0.here hx rfl (Jvm.hb hby own_d5_1) rfl ?_
    show Steps pP.tables eE below (s₁.setTop (mkF mM 2 #[.val (.int p1), .val (.int p2)] [(.int p2), (.int p1)])) tT
    exact kK
  by_cases hc2_1_ : p1 < p2
  · refine own_fin (b := s₁.setTop (mkF mM 10 #[.val (.int p1), .val (.int p2)] [(.int p2)])) (fun tT kK => ?_) ?_
    · show Steps pP.tables eE below (s₁.setTop (mkF mM 2 #[.val (.int p1), .val (.int p2)] [(.int p2), (.int p1)])) tT
      refine XS.icmpYes X0.here hx rfl (pc0 := 2) (pc' := 9) rfl (Jvm.hb hby own_d5_2) rfl (tlt (hc2_1_ : p1 < p2)).1 (by decide) (by decide) ?_
      show Steps pP.tables eE below (s₁.setTop (mkF mM 9 #[.val (.int p1), .val (.int p2)] [])) tT
      refine XS.iloadN X0.here hx rfl (Jvm.hb hby own_d5_9) rfl ?_
      show Steps pP.tables eE below (s₁.setTop (mkF mM 10 #[.val (.int p1), .val (.int p2)] [(.int p2)])) tT
      exact kK
    obtain ⟨fs, hr, hrun, hended, hW, hsame⟩ := X0.leave (v := some (.int p2)) (fun h => by rw [Bd.returns] at h; cases h)
    refine ⟨_, _, ?_, hrun, hended, _, _, rfl, ?_, ⟨_, rfl⟩, hW, hsame.mono (by decide) (by decide)⟩
    · show Steps pP.tables eE below (s₁.setTop (mkF mM 10 #[.val (.int p1), .val (.int p2)] [(.int p2)])) _
      exact retOut X0 hx Bd.returns rfl (Or.inl ⟨rfl, Or.inl rfl, _, rfl⟩) (Jvm.hb hby own_d5_10) hr
    · show Q_rm_max Z p1 p2 h0 n0 _ s₁.heap _
      rw [e0]
      exact ⟨by rw [if_pos hc2_1_], N0, rfl⟩
  · refine own_fin (b := s₁.setTop (mkF mM 10 #[.val (.int p1), .val (.int p2)] [(.int p1)])) (fun tT kK => ?_) ?_
    · show Steps pP.tables eE below (s₁.setTop (mkF mM 2 #[.val (.int p1), .val (.int p2)] [(.int p2), (.int p1)])) tT
      refine XS.icmpNo X0.here hx rfl (Jvm.hb hby own_d5_2) rfl (flt (hc2_1_ : ¬ (p1 < p2))).1 ?_
      show Steps pP.tables eE below (s₁.setTop (mkF mM 5 #[.val (.int p1), .val (.int p2)] [])) tT
      refine XS.iloadN X0.here hx rfl (Jvm.hb hby own_d5_5) rfl ?_
      show Steps pP.tables eE below (s₁.setTop (mkF mM 6 #[.val (.int p1), .val (.int p2)] [(.int p1)])) tT
      refine XS.goto X0.here hx rfl (pc0 := 6) (pc' := 10) rfl (Jvm.hb hby own_d5_6) (by decide) (by decide) ?_
      show Steps pP.tables eE below (s₁.setTop (mkF mM 10 #[.val (.int p1), .val (.int p2)] [(.int p1)])) tT
      exact kK
    obtain ⟨fs, hr, hrun, hended, hW, hsame⟩ := X0.leave (v := some (.int p1)) (fun h => by rw [Bd.returns] at h; cases h)
    refine ⟨_, _, ?_, hrun, hended, _, _, rfl, ?_, ⟨_, rfl⟩, hW, hsame.mono (by decide) (by decide)⟩
    · show Steps pP.tables eE below (s₁.setTop (mkF mM 10 #[.val (.int p1), .val (.int p2)] [(.int p1)])) _
      exact retOut X0 hx Bd.returns rfl (Or.inl ⟨rfl, Or.inl rfl, _, rfl⟩) (Jvm.hb hby own_d5_10) hr
    · show Q_rm_max Z p1 p2 h0 n0 _ s₁.heap _
      rw [e0]
      exact ⟨by rw [if_neg hc2_1_], N0, rfl⟩
theorem own_d6_0 : decode prog_39_method_4_code 0 = .ok (.aload_n 0, 1) := by decide +kernel
theorem own_d6_1 : decode prog_39_method_4_code 1 = .ok (.getfield 13, 3) := by decide +kernel
theorem own_d6_4 : decode prog_39_method_4_code 4 = .ok (.ifCond .ge 24, 3) := by decide +kernel
theorem own_d6_7 : decode prog_39_method_4_code 7 = .ok (.aload_n 0, 1) := by decide +kernel
theorem own_d6_8 : decode prog_39_method_4_code 8 = .ok (.getfield 16, 3) := by decide +kernel
theorem own_d6_11 : decode prog_39_method_4_code 11 = .ok (.ifCond .ge 17, 3) := by decide +kernel
theorem own_d6_14 : decode prog_39_method_4_code 14 = .ok (.aload_n 0, 1) := by decide +kernel
theorem own_d6_15 : decode prog_39_method_4_code 15 = .ok (.getfield 19, 3) := by decide +kernel
theorem own_d6_18 : decode prog_39_method_4_code 18 = .ok (.ifCond .ge 10, 3) := by decide +kernel
theorem own_d6_21 : decode prog_39_method_4_code 21 = .ok (.aload_n 0, 1) := by decide +kernel
theorem own_d6_22 : decode prog_39_method_4_code 22 = .ok (.getfield 22, 3) := by decide +kernel
theorem own_d6_25 : decode prog_39_method_4_code 25 = .ok (.ifCond .lt 7, 3) := by decide +kernel
theorem own_d6_32 : decode prog_39_method_4_code 32 = .ok (.iconst 0, 1) := by decide +kernel
theorem own_d6_33 : decode prog_39_method_4_code 33 = .ok (.ireturn, 1) := by decide +kernel
theorem own_d6_28 : decode prog_39_method_4_code 28 = .ok (.iconst 1, 1) := by decide +kernel
theorem own_d6_29 : decode prog_39_method_4_code 29 = .ok (.goto 4, 3) := by decide +kernel
theorem own_ef_rm_any (mM : MethodId) (x0 : Addr) : entryFrame mM #[(.ref x0)] 1 = mkF mM 0 #[.val (.ref x0)] [] := by first | (simp [entryFrame, mkF, argsToLocals, Value.category]; done) | rfl
def Q_rm_any (Z : State) (a : Addr) (p2 : Int32) (p3 : Int32) (p4 : Int32) (p5 : Int32) (h0 : Heap) (n0 : Nat) (vV : Option Value) (hH : Heap) (lA : List Loc) : Prop := vV = some (.int (if p2 < (0 : Int32) then (if p3 < (0 : Int32) then (if p4 < (0 : Int32) then (if p5 < (0 : Int32) then (0 : Int32) else (1 : Int32)) else (1 : Int32)) else (1 : Int32)) else (1 : Int32))) ∧ Fr n0 lA ∧ (hH = h0)
set_option maxRecDepth 65536 in
set_option maxHeartbeats 40000000 in
theorem rm_any (lL : Launch) (Z : State) (a0 : Array Value) (hw : ∀ d ∈ tables_1, d.before a0 Z = true) (ws : List Jvm.Cond) (a : Addr) (p2 : Int32) (p3 : Int32) (p4 : Int32) (p5 : Int32) (h0 : Heap) (n0 : Nat) (Z0 : n0 ≤ h0.size) (F2 : Fld Z h0 a "com/example/method_to_query/methodtoquery/derivation/SpecialParameters" "pageable" "I" (.int p2)) (F3 : Fld Z h0 a "com/example/method_to_query/methodtoquery/derivation/SpecialParameters" "sort" "I" (.int p3)) (F4 : Fld Z h0 a "com/example/method_to_query/methodtoquery/derivation/SpecialParameters" "limit" "I" (.int p4)) (F5 : Fld Z h0 a "com/example/method_to_query/methodtoquery/derivation/SpecialParameters" "type" "I" (.int p5)) :
    MetFree lL (⟨"com/example/method_to_query/methodtoquery/derivation/SpecialParameters", "any", "()Z"⟩ : MethodName) (head1 (Jvm.Cond.code (⟨"com/example/method_to_query/methodtoquery/derivation/SpecialParameters", "any", "()Z"⟩ : MethodName) prog_39_method_4_code 1 (some .boolean) :: ws) ({ frames := 0, cells := 0, slots := 0, locals := 0 } : Room)) (fun aA uU => aA = #[(.ref a)] ∧ Z.Warmed39 uU.vm ∧ uU.heap = h0) (fun _ _ _ _ _ => True) (fun _ uU oO uU' => ∃ vV lA, oO = .returned vV ∧ Q_rm_any Z a p2 p3 p4 p5 h0 n0 vV uU'.heap lA ∧ FrameEnd uU oO uU' lA ({ frames := 0, cells := 0, slots := 0, locals := 0 } : Room).cells ({ frames := 0, cells := 0, slots := 0, locals := 0 } : Room).slots) := by
  refine MetFree.of_bodySF (plainFor_of_name own_pn_com_example_method_to_query_methodtoquery_derivation_SpecialParameters) hisR ?_
  intro pP eE sS mM args below meth cC s₁ Bd hml0 hP hK
  obtain ⟨rfl, hZ, hh⟩ := hP
  have hx := Bd.exec
  have hby := Bd.bytes
  have hml : cC.maxLocals = 1 := hml0
  have hown : sS.vm.findClass "com/example/method_to_query/methodtoquery/derivation/SpecialParameters" = some mM.cls := findClass_of_methodNamed Bd.named
  have hnm := (name_of_methodNamed Bd.named Bd.method).1
  have X0 : Stand pP lL eE ({ frames := 0, cells := 0, slots := 0, locals := 0 } : Room) sS mM #[(.ref a)] below meth cC s₁ [] 0 0 := Stand.of_body Bd
  have e0 : s₁.heap = h0 := by rw [← hh, Bd.state]; rfl
  have N0 := Fr.nil n0
  have K0 := Keep.refl h0 ([] : List Addr)
  show own_Fin pP eE below (fun tT oO => ∃ vV lA, oO = .returned vV ∧ Q_rm_any Z a p2 p3 p4 p5 h0 n0 vV tT.heap lA ∧ FrameEnd sS oO tT lA ({ frames := 0, cells := 0, slots := 0, locals := 0 } : Room).cells ({ frames := 0, cells := 0, slots := 0, locals := 0 } : Room).slots) (s₁.setTop (entryFrame mM #[(.ref a)] 1))
  refine own_fin (b := s₁.setTop (mkF mM 0 #[.val (.ref a)] [])) (fun tT kK => castTop (own_ef_rm_any mM a) kK) ?_
  refine own_fin (b := s₁.setTop (mkF mM 1 #[.val (.ref a)] [(.ref a)])) (fun tT kK => ?_) ?_
  · show Steps pP.tables eE below (s₁.setTop (mkF mM 0 #[.val (.ref a)] [])) tT
    refine XS.aloadN X0.here hx rfl (Jvm.hb hby own_d6_0) rfl rfl ?_
    show Steps pP.tables eE below (s₁.setTop (mkF mM 1 #[.val (.ref a)] [(.ref a)])) tT
    exact kK
  obtain ⟨T1_, X1_, e1_, st1_⟩ := getF X0 hx hZ hown (host := "") (Or.inl (hw _ (List.mem_of_getElem? (i := 20) rfl))) Via.refl e0 F2 (g := (mkF mM 1 #[.val (.ref a)] [(.ref a)])) rfl rfl (Jvm.hb hby own_d6_1)
  refine own_fin st1_ ?_
  show own_Fin pP eE below _ (T1_.setTop (mkF mM 4 #[.val (.ref a)] [(.int p2)]))
  by_cases hc4_2_ : p2 < (0 : Int32)
  · refine own_fin (b := T1_.setTop (mkF mM 8 #[.val (.ref a)] [(.ref a)])) (fun tT kK => ?_) ?_
    · show Steps pP.tables eE below (T1_.setTop (mkF mM 4 #[.val (.ref a)] [(.int p2)])) tT
      refine XS.ifNo X1_.here hx rfl (Jvm.hb hby own_d6_4) rfl ((if0 _ _).trans (tlt (hc4_2_ : p2 < (0 : Int32))).2.1) ?_
      show Steps pP.tables eE below (T1_.setTop (mkF mM 7 #[.val (.ref a)] [])) tT
      refine XS.aloadN X1_.here hx rfl (Jvm.hb hby own_d6_7) rfl rfl ?_
      show Steps pP.tables eE below (T1_.setTop (mkF mM 8 #[.val (.ref a)] [(.ref a)])) tT
      exact kK
    obtain ⟨T3_, X3_, e3_, st3_⟩ := getF X1_ hx hZ hown (host := "") (Or.inl (hw _ (List.mem_of_getElem? (i := 22) rfl))) Via.refl e1_ F3 (g := (mkF mM 8 #[.val (.ref a)] [(.ref a)])) rfl rfl (Jvm.hb hby own_d6_8)
    refine own_fin st3_ ?_
    show own_Fin pP eE below _ (T3_.setTop (mkF mM 11 #[.val (.ref a)] [(.int p3)]))
    by_cases hc11_4_ : p3 < (0 : Int32)
    · refine own_fin (b := T3_.setTop (mkF mM 15 #[.val (.ref a)] [(.ref a)])) (fun tT kK => ?_) ?_
      · show Steps pP.tables eE below (T3_.setTop (mkF mM 11 #[.val (.ref a)] [(.int p3)])) tT
        refine XS.ifNo X3_.here hx rfl (Jvm.hb hby own_d6_11) rfl ((if0 _ _).trans (tlt (hc11_4_ : p3 < (0 : Int32))).2.1) ?_
        show Steps pP.tables eE below (T3_.setTop (mkF mM 14 #[.val (.ref a)] [])) tT
        refine XS.aloadN X3_.here hx rfl (Jvm.hb hby own_d6_14) rfl rfl ?_
        show Steps pP.tables eE below (T3_.setTop (mkF mM 15 #[.val (.ref a)] [(.ref a)])) tT
        exact kK
      obtain ⟨T5_, X5_, e5_, st5_⟩ := getF X3_ hx hZ hown (host := "") (Or.inl (hw _ (List.mem_of_getElem? (i := 24) rfl))) Via.refl e3_ F4 (g := (mkF mM 15 #[.val (.ref a)] [(.ref a)])) rfl rfl (Jvm.hb hby own_d6_15)
      refine own_fin st5_ ?_
      show own_Fin pP eE below _ (T5_.setTop (mkF mM 18 #[.val (.ref a)] [(.int p4)]))
      by_cases hc18_6_ : p4 < (0 : Int32)
      · refine own_fin (b := T5_.setTop (mkF mM 22 #[.val (.ref a)] [(.ref a)])) (fun tT kK => ?_) ?_
        · show Steps pP.tables eE below (T5_.setTop (mkF mM 18 #[.val (.ref a)] [(.int p4)])) tT
          refine XS.ifNo X5_.here hx rfl (Jvm.hb hby own_d6_18) rfl ((if0 _ _).trans (tlt (hc18_6_ : p4 < (0 : Int32))).2.1) ?_
          show Steps pP.tables eE below (T5_.setTop (mkF mM 21 #[.val (.ref a)] [])) tT
          refine XS.aloadN X5_.here hx rfl (Jvm.hb hby own_d6_21) rfl rfl ?_
          show Steps pP.tables eE below (T5_.setTop (mkF mM 22 #[.val (.ref a)] [(.ref a)])) tT
          exact kK
        obtain ⟨T7_, X7_, e7_, st7_⟩ := getF X5_ hx hZ hown (host := "") (Or.inl (hw _ (List.mem_of_getElem? (i := 26) rfl))) Via.refl e5_ F5 (g := (mkF mM 22 #[.val (.ref a)] [(.ref a)])) rfl rfl (Jvm.hb hby own_d6_22)
        refine own_fin st7_ ?_
        show own_Fin pP eE below _ (T7_.setTop (mkF mM 25 #[.val (.ref a)] [(.int p5)]))
        by_cases hc25_8_ : p5 < (0 : Int32)
        · refine own_fin (b := T7_.setTop (mkF mM 33 #[.val (.ref a)] [(.int (0 : Int32))])) (fun tT kK => ?_) ?_
          · show Steps pP.tables eE below (T7_.setTop (mkF mM 25 #[.val (.ref a)] [(.int p5)])) tT
            refine XS.ifYes X7_.here hx rfl (pc0 := 25) (pc' := 32) rfl (Jvm.hb hby own_d6_25) rfl ((if0 _ _).trans (tlt (hc25_8_ : p5 < (0 : Int32))).1) (by decide) (by decide) ?_
            show Steps pP.tables eE below (T7_.setTop (mkF mM 32 #[.val (.ref a)] [])) tT
            refine XS.iconst X7_.here hx rfl (Jvm.hb hby own_d6_32) ?_
            show Steps pP.tables eE below (T7_.setTop (mkF mM 33 #[.val (.ref a)] [(.int (0 : Int32))])) tT
            exact kK
          obtain ⟨fs, hr, hrun, hended, hW, hsame⟩ := X7_.leave (v := some (.int (0 : Int32))) (fun h => by rw [Bd.returns] at h; cases h)
          refine ⟨_, _, ?_, hrun, hended, _, _, rfl, ?_, ⟨_, rfl⟩, hW, hsame.mono (by decide) (by decide)⟩
          · show Steps pP.tables eE below (T7_.setTop (mkF mM 33 #[.val (.ref a)] [(.int (0 : Int32))])) _
            exact retN X7_ hx (t := .boolean) Bd.returns (by simp) (Jvm.hb hby own_d6_33) hr
          · show Q_rm_any Z a p2 p3 p4 p5 h0 n0 _ T7_.heap _
            rw [e7_]
            exact ⟨by rw [if_pos hc4_2_, if_pos hc11_4_, if_pos hc18_6_, if_pos hc25_8_], N0, rfl⟩
        · refine own_fin (b := T7_.setTop (mkF mM 33 #[.val (.ref a)] [(.int (1 : Int32))])) (fun tT kK => ?_) ?_
          · show Steps pP.tables eE below (T7_.setTop (mkF mM 25 #[.val (.ref a)] [(.int p5)])) tT
            refine XS.ifNo X7_.here hx rfl (Jvm.hb hby own_d6_25) rfl ((if0 _ _).trans (flt (hc25_8_ : ¬ (p5 < (0 : Int32)))).1) ?_
            show Steps pP.tables eE below (T7_.setTop (mkF mM 28 #[.val (.ref a)] [])) tT
            refine XS.iconst X7_.here hx rfl (Jvm.hb hby own_d6_28) ?_
            show Steps pP.tables eE below (T7_.setTop (mkF mM 29 #[.val (.ref a)] [(.int (1 : Int32))])) tT
            refine XS.goto X7_.here hx rfl (pc0 := 29) (pc' := 33) rfl (Jvm.hb hby own_d6_29) (by decide) (by decide) ?_
            show Steps pP.tables eE below (T7_.setTop (mkF mM 33 #[.val (.ref a)] [(.int (1 : Int32))])) tT
            exact kK
          obtain ⟨fs, hr, hrun, hended, hW, hsame⟩ := X7_.leave (v := some (.int (1 : Int32))) (fun h => by rw [Bd.returns] at h; cases h)
          refine ⟨_, _, ?_, hrun, hended, _, _, rfl, ?_, ⟨_, rfl⟩, hW, hsame.mono (by decide) (by decide)⟩
          · show Steps pP.tables eE below (T7_.setTop (mkF mM 33 #[.val (.ref a)] [(.int (1 : Int32))])) _
            exact retN X7_ hx (t := .boolean) Bd.returns (by simp) (Jvm.hb hby own_d6_33) hr
          · show Q_rm_any Z a p2 p3 p4 p5 h0 n0 _ T7_.heap _
            rw [e7_]
            exact ⟨by rw [if_pos hc4_2_, if_pos hc11_4_, if_pos hc18_6_, if_neg hc25_8_], N0, rfl⟩
      · refine own_fin (b := T5_.setTop (mkF mM 33 #[.val (.ref a)] [(.int (1 : Int32))])) (fun tT kK => ?_) ?_
        · show Steps pP.tables eE below (T5_.setTop (mkF mM 18 #[.val (.ref a)] [(.int p4)])) tT
          refine XS.ifYes X5_.here hx rfl (pc0 := 18) (pc' := 28) rfl (Jvm.hb hby own_d6_18) rfl ((if0 _ _).trans (flt (hc18_6_ : ¬ (p4 < (0 : Int32)))).2.1) (by decide) (by decide) ?_
          show Steps pP.tables eE below (T5_.setTop (mkF mM 28 #[.val (.ref a)] [])) tT
          refine XS.iconst X5_.here hx rfl (Jvm.hb hby own_d6_28) ?_
          show Steps pP.tables eE below (T5_.setTop (mkF mM 29 #[.val (.ref a)] [(.int (1 : Int32))])) tT
          refine XS.goto X5_.here hx rfl (pc0 := 29) (pc' := 33) rfl (Jvm.hb hby own_d6_29) (by decide) (by decide) ?_
          show Steps pP.tables eE below (T5_.setTop (mkF mM 33 #[.val (.ref a)] [(.int (1 : Int32))])) tT
          exact kK
        obtain ⟨fs, hr, hrun, hended, hW, hsame⟩ := X5_.leave (v := some (.int (1 : Int32))) (fun h => by rw [Bd.returns] at h; cases h)
        refine ⟨_, _, ?_, hrun, hended, _, _, rfl, ?_, ⟨_, rfl⟩, hW, hsame.mono (by decide) (by decide)⟩
        · show Steps pP.tables eE below (T5_.setTop (mkF mM 33 #[.val (.ref a)] [(.int (1 : Int32))])) _
          exact retN X5_ hx (t := .boolean) Bd.returns (by simp) (Jvm.hb hby own_d6_33) hr
        · show Q_rm_any Z a p2 p3 p4 p5 h0 n0 _ T5_.heap _
          rw [e5_]
          exact ⟨by rw [if_pos hc4_2_, if_pos hc11_4_, if_neg hc18_6_], N0, rfl⟩
    · refine own_fin (b := T3_.setTop (mkF mM 33 #[.val (.ref a)] [(.int (1 : Int32))])) (fun tT kK => ?_) ?_
      · show Steps pP.tables eE below (T3_.setTop (mkF mM 11 #[.val (.ref a)] [(.int p3)])) tT
        refine XS.ifYes X3_.here hx rfl (pc0 := 11) (pc' := 28) rfl (Jvm.hb hby own_d6_11) rfl ((if0 _ _).trans (flt (hc11_4_ : ¬ (p3 < (0 : Int32)))).2.1) (by decide) (by decide) ?_
        show Steps pP.tables eE below (T3_.setTop (mkF mM 28 #[.val (.ref a)] [])) tT
        refine XS.iconst X3_.here hx rfl (Jvm.hb hby own_d6_28) ?_
        show Steps pP.tables eE below (T3_.setTop (mkF mM 29 #[.val (.ref a)] [(.int (1 : Int32))])) tT
        refine XS.goto X3_.here hx rfl (pc0 := 29) (pc' := 33) rfl (Jvm.hb hby own_d6_29) (by decide) (by decide) ?_
        show Steps pP.tables eE below (T3_.setTop (mkF mM 33 #[.val (.ref a)] [(.int (1 : Int32))])) tT
        exact kK
      obtain ⟨fs, hr, hrun, hended, hW, hsame⟩ := X3_.leave (v := some (.int (1 : Int32))) (fun h => by rw [Bd.returns] at h; cases h)
      refine ⟨_, _, ?_, hrun, hended, _, _, rfl, ?_, ⟨_, rfl⟩, hW, hsame.mono (by decide) (by decide)⟩
      · show Steps pP.tables eE below (T3_.setTop (mkF mM 33 #[.val (.ref a)] [(.int (1 : Int32))])) _
        exact retN X3_ hx (t := .boolean) Bd.returns (by simp) (Jvm.hb hby own_d6_33) hr
      · show Q_rm_any Z a p2 p3 p4 p5 h0 n0 _ T3_.heap _
        rw [e3_]
        exact ⟨by rw [if_pos hc4_2_, if_neg hc11_4_], N0, rfl⟩
  · refine own_fin (b := T1_.setTop (mkF mM 33 #[.val (.ref a)] [(.int (1 : Int32))])) (fun tT kK => ?_) ?_
    · show Steps pP.tables eE below (T1_.setTop (mkF mM 4 #[.val (.ref a)] [(.int p2)])) tT
      refine XS.ifYes X1_.here hx rfl (pc0 := 4) (pc' := 28) rfl (Jvm.hb hby own_d6_4) rfl ((if0 _ _).trans (flt (hc4_2_ : ¬ (p2 < (0 : Int32)))).2.1) (by decide) (by decide) ?_
      show Steps pP.tables eE below (T1_.setTop (mkF mM 28 #[.val (.ref a)] [])) tT
      refine XS.iconst X1_.here hx rfl (Jvm.hb hby own_d6_28) ?_
      show Steps pP.tables eE below (T1_.setTop (mkF mM 29 #[.val (.ref a)] [(.int (1 : Int32))])) tT
      refine XS.goto X1_.here hx rfl (pc0 := 29) (pc' := 33) rfl (Jvm.hb hby own_d6_29) (by decide) (by decide) ?_
      show Steps pP.tables eE below (T1_.setTop (mkF mM 33 #[.val (.ref a)] [(.int (1 : Int32))])) tT
      exact kK
    obtain ⟨fs, hr, hrun, hended, hW, hsame⟩ := X1_.leave (v := some (.int (1 : Int32))) (fun h => by rw [Bd.returns] at h; cases h)
    refine ⟨_, _, ?_, hrun, hended, _, _, rfl, ?_, ⟨_, rfl⟩, hW, hsame.mono (by decide) (by decide)⟩
    · show Steps pP.tables eE below (T1_.setTop (mkF mM 33 #[.val (.ref a)] [(.int (1 : Int32))])) _
      exact retN X1_ hx (t := .boolean) Bd.returns (by simp) (Jvm.hb hby own_d6_33) hr
    · show Q_rm_any Z a p2 p3 p4 p5 h0 n0 _ T1_.heap _
      rw [e1_]
      exact ⟨by rw [if_neg hc4_2_], N0, rfl⟩
theorem own_pd1 : parseMethodDescriptor "(I)I" = some ⟨[.int], some .int⟩ := by decide +kernel
theorem own_pd2 : parseMethodDescriptor "(IIIII)V" = some ⟨[.int, .int, .int, .int, .int], none⟩ := by decide +kernel
theorem own_pd3 : parseMethodDescriptor "(II)I" = some ⟨[.int, .int], some .int⟩ := by decide +kernel
theorem own_pd4 : parseMethodDescriptor "()Z" = some ⟨[], some .boolean⟩ := by decide +kernel
theorem own_ef_rm0 (mM : MethodId) (x0 : Int32) (x1 : Int32) (x2 : Int32) (x3 : Int32) (x4 : Int32) : entryFrame mM #[(.int x0), (.int x1), (.int x2), (.int x3), (.int x4)] maxLocals = mkF mM 0 #[.val (.int x0), .val (.int x1), .val (.int x2), .val (.int x3), .val (.int x4), .unset, .unset, .unset, .unset, .unset, .unset, .unset] [] := by first | (simp [entryFrame, mkF, argsToLocals, Value.category, maxLocals]; done) | rfl
def Q_rm0 (Z : State) (p1 : Int32) (p2 : Int32) (p3 : Int32) (p4 : Int32) (p5 : Int32) (h0 : Heap) (n0 : Nat) (vV : Option Value) (hH : Heap) (lA : List Loc) : Prop := vV = some (.int (1 : Int32)) ∧ Fr n0 lA
set_option maxRecDepth 65536 in
set_option maxHeartbeats 40000000 in
theorem rm0 (lL : Launch) (Z : State) (a0 : Array Value) (hw : ∀ d ∈ tables_1, d.before a0 Z = true) (ws : List Jvm.Cond) (p1 : Int32) (p2 : Int32) (p3 : Int32) (p4 : Int32) (p5 : Int32) (h0 : Heap) (n0 : Nat) (Z0 : n0 ≤ h0.size) :
    MetFree lL x (head1 (Jvm.Cond.code x code maxLocals ret :: ws) room_1) (fun aA uU => aA = #[(.int p1), (.int p2), (.int p3), (.int p4), (.int p5)] ∧ Z.Warmed39 uU.vm ∧ uU.heap = h0) (fun _ _ _ _ _ => True) (fun _ uU oO uU' => ∃ vV lA, oO = .returned vV ∧ Q_rm0 Z p1 p2 p3 p4 p5 h0 n0 vV uU'.heap lA ∧ FrameEnd uU oO uU' lA room_1.cells room_1.slots) := by
  refine MetFree.of_bodySF (plainFor_of_name own_pn_com_example_method_to_query_methodtoquery_derivation_SpecialParametersAnyPinLaw) hisR ?_
  intro pP eE sS mM args below meth cC s₁ Bd hml0 hP hK
  obtain ⟨rfl, hZ, hh⟩ := hP
  have hx := Bd.exec
  have hby := Bd.bytes
  have hml : cC.maxLocals = 12 := hml0
  have hown : sS.vm.findClass "com/example/method_to_query/methodtoquery/derivation/SpecialParametersAnyPinLaw" = some mM.cls := findClass_of_methodNamed Bd.named
  have hnm := (name_of_methodNamed Bd.named Bd.method).1
  have X0 : Stand pP lL eE room_1 sS mM #[(.int p1), (.int p2), (.int p3), (.int p4), (.int p5)] below meth cC s₁ [] 0 0 := Stand.of_body Bd
  have e0 : s₁.heap = h0 := by rw [← hh, Bd.state]; rfl
  have N0 := Fr.nil n0
  have K0 := Keep.refl h0 ([] : List Addr)
  show own_Fin pP eE below (fun tT oO => ∃ vV lA, oO = .returned vV ∧ Q_rm0 Z p1 p2 p3 p4 p5 h0 n0 vV tT.heap lA ∧ FrameEnd sS oO tT lA room_1.cells room_1.slots) (s₁.setTop (entryFrame mM #[(.int p1), (.int p2), (.int p3), (.int p4), (.int p5)] maxLocals))
  refine own_fin (b := s₁.setTop (mkF mM 0 #[.val (.int p1), .val (.int p2), .val (.int p3), .val (.int p4), .val (.int p5), .unset, .unset, .unset, .unset, .unset, .unset, .unset] [])) (fun tT kK => castTop (own_ef_rm0 mM p1 p2 p3 p4 p5) kK) ?_
  refine own_fin (b := s₁.setTop (mkF mM 1 #[.val (.int p1), .val (.int p2), .val (.int p3), .val (.int p4), .val (.int p5), .unset, .unset, .unset, .unset, .unset, .unset, .unset] [(.int p2)])) (fun tT kK => ?_) ?_
  · show Steps pP.tables eE below (s₁.setTop (mkF mM 0 #[.val (.int p1), .val (.int p2), .val (.int p3), .val (.int p4), .val (.int p5), .unset, .unset, .unset, .unset, .unset, .unset, .unset] [])) tT
    refine XS.iloadN X0.here hx rfl (Jvm.hb hby at_0) rfl ?_
    show Steps pP.tables eE below (s₁.setTop (mkF mM 1 #[.val (.int p1), .val (.int p2), .val (.int p3), .val (.int p4), .val (.int p5), .unset, .unset, .unset, .unset, .unset, .unset, .unset] [(.int p2)])) tT
    exact kK
  obtain ⟨_, _, ⟨T1_, L1_, k1_, n1_⟩, -, X1_, ⟨Lc1_, hQ1_, l1_, y1_, z1_⟩, st1_⟩ := Jvm.LawKit.callS X0 hx (y := (⟨"com/example/method_to_query/methodtoquery/derivation/SpecialParametersAnyPinLaw", "index", "(I)I"⟩ : MethodName)) hown (mvT hZ (hw _ (List.mem_of_getElem? (i := 0) rfl))) (mvT hZ (hw _ (List.mem_of_getElem? (i := 1) rfl))) (mvT hZ (hw _ (List.mem_of_getElem? (i := 2) rfl))) (mvT hZ (hw _ (List.mem_of_getElem? (i := 3) rfl))) (by decide) (backOf (W := 0) (rm_index lL Z a0 hw [] p2 h0 n0 (Nat.le_trans Z0 K0.1) ) hZ (hw _ (List.mem_of_getElem? (i := 3) rfl)) (hw _ (List.mem_of_getElem? (i := 2) rfl)) (by decide) (by decide)) (g := (mkF mM 1 #[.val (.int p1), .val (.int p2), .val (.int p3), .val (.int p4), .val (.int p5), .unset, .unset, .unset, .unset, .unset, .unset, .unset] [(.int p2)])) rfl (by rw [hml]; rfl) (argsL := [(.int p2)]) (rest := []) (lenOf own_pd1 rfl) rfl (by show 2 * 0 + _ ≤ _; exact Nat.le_of_eq rfl) (Jvm.hb hby at_1) (fun _ _ => ⟨rfl, e0, (by decide : 0 + 0 ≤ _), (by decide : 0 + 0 ≤ _)⟩)
  dsimp only [Pt.U, Pt.locs, Pt.cells, Pt.slots] at X1_ l1_ y1_ z1_ st1_ hQ1_
  subst l1_ y1_ z1_
  obtain ⟨rfl, N1_q, p1__0⟩ := hQ1_
  have N1_ := Fr.app N0 N1_q
  refine own_fin (fun tT kK => st1_ tT kK) ?_
  show own_Fin pP eE below _ (T1_.setTop (mkF mM 4 #[.val (.int p1), .val (.int p2), .val (.int p3), .val (.int p4), .val (.int p5), .unset, .unset, .unset, .unset, .unset, .unset, .unset] [(.int (if p2 < (0 : Int32) then (-1 : Int32) else p2))]))
  show own_Fin pP eE below _ (T1_.setTop (mkF mM 4 #[.val (.int p1), .val (.int p2), .val (.int p3), .val (.int p4), .val (.int p5), .unset, .unset, .unset, .unset, .unset, .unset, .unset] [(.int (if p2 < (0 : Int32) then (-1 : Int32) else p2))]))
  generalize hv2_ : (if p2 < (0 : Int32) then (-1 : Int32) else p2) = v2_
  show own_Fin pP eE below _ (T1_.setTop (mkF mM 4 #[.val (.int p1), .val (.int p2), .val (.int p3), .val (.int p4), .val (.int p5), .unset, .unset, .unset, .unset, .unset, .unset, .unset] [(.int v2_)]))
  have hb2 := own_ix hv2_
  refine own_fin (b := T1_.setTop (mkF mM 7 #[.val (.int p1), .val (.int p2), .val (.int p3), .val (.int p4), .val (.int p5), .val (.int v2_), .unset, .unset, .unset, .unset, .unset, .unset] [(.int p3)])) (fun tT kK => ?_) ?_
  · show Steps pP.tables eE below (T1_.setTop (mkF mM 4 #[.val (.int p1), .val (.int p2), .val (.int p3), .val (.int p4), .val (.int p5), .unset, .unset, .unset, .unset, .unset, .unset, .unset] [(.int v2_)])) tT
    refine XS.istore X1_.here hx rfl (Jvm.hb hby at_4) rfl (l' := #[.val (.int p1), .val (.int p2), .val (.int p3), .val (.int p4), .val (.int p5), .val (.int v2_), .unset, .unset, .unset, .unset, .unset, .unset]) rfl ?_
    show Steps pP.tables eE below (T1_.setTop (mkF mM 6 #[.val (.int p1), .val (.int p2), .val (.int p3), .val (.int p4), .val (.int p5), .val (.int v2_), .unset, .unset, .unset, .unset, .unset, .unset] [])) tT
    refine XS.iloadN X1_.here hx rfl (Jvm.hb hby at_6) rfl ?_
    show Steps pP.tables eE below (T1_.setTop (mkF mM 7 #[.val (.int p1), .val (.int p2), .val (.int p3), .val (.int p4), .val (.int p5), .val (.int v2_), .unset, .unset, .unset, .unset, .unset, .unset] [(.int p3)])) tT
    exact kK
  obtain ⟨_, _, ⟨T2_, L2_, k2_, n2_⟩, -, X2_, ⟨Lc2_, hQ2_, l2_, y2_, z2_⟩, st2_⟩ := Jvm.LawKit.callS X1_ hx (y := (⟨"com/example/method_to_query/methodtoquery/derivation/SpecialParametersAnyPinLaw", "index", "(I)I"⟩ : MethodName)) hown (mvT hZ (hw _ (List.mem_of_getElem? (i := 0) rfl))) (mvT hZ (hw _ (List.mem_of_getElem? (i := 1) rfl))) (mvT hZ (hw _ (List.mem_of_getElem? (i := 2) rfl))) (mvT hZ (hw _ (List.mem_of_getElem? (i := 3) rfl))) (by decide) (backOf (W := 0) (rm_index lL Z a0 hw [] p3 h0 n0 (Nat.le_trans Z0 K0.1) ) hZ (hw _ (List.mem_of_getElem? (i := 3) rfl)) (hw _ (List.mem_of_getElem? (i := 2) rfl)) (by decide) (by decide)) (g := (mkF mM 7 #[.val (.int p1), .val (.int p2), .val (.int p3), .val (.int p4), .val (.int p5), .val (.int v2_), .unset, .unset, .unset, .unset, .unset, .unset] [(.int p3)])) rfl (by rw [hml]; rfl) (argsL := [(.int p3)]) (rest := []) (lenOf own_pd1 rfl) rfl (by show 2 * 0 + _ ≤ _; exact Nat.le_of_eq rfl) (Jvm.hb hby at_7) (fun _ _ => ⟨rfl, p1__0, (by decide : 0 + 0 ≤ _), (by decide : 0 + 0 ≤ _)⟩)
  dsimp only [Pt.U, Pt.locs, Pt.cells, Pt.slots] at X2_ l2_ y2_ z2_ st2_ hQ2_
  subst l2_ y2_ z2_
  obtain ⟨rfl, N2_q, p2__0⟩ := hQ2_
  have N2_ := Fr.app N1_ N2_q
  refine own_fin (fun tT kK => st2_ tT kK) ?_
  show own_Fin pP eE below _ (T2_.setTop (mkF mM 10 #[.val (.int p1), .val (.int p2), .val (.int p3), .val (.int p4), .val (.int p5), .val (.int v2_), .unset, .unset, .unset, .unset, .unset, .unset] [(.int (if p3 < (0 : Int32) then (-1 : Int32) else p3))]))
  show own_Fin pP eE below _ (T2_.setTop (mkF mM 10 #[.val (.int p1), .val (.int p2), .val (.int p3), .val (.int p4), .val (.int p5), .val (.int v2_), .unset, .unset, .unset, .unset, .unset, .unset] [(.int (if p3 < (0 : Int32) then (-1 : Int32) else p3))]))
  generalize hv3_ : (if p3 < (0 : Int32) then (-1 : Int32) else p3) = v3_
  show own_Fin pP eE below _ (T2_.setTop (mkF mM 10 #[.val (.int p1), .val (.int p2), .val (.int p3), .val (.int p4), .val (.int p5), .val (.int v2_), .unset, .unset, .unset, .unset, .unset, .unset] [(.int v3_)]))
  have hb3 := own_ix hv3_
  refine own_fin (b := T2_.setTop (mkF mM 13 #[.val (.int p1), .val (.int p2), .val (.int p3), .val (.int p4), .val (.int p5), .val (.int v2_), .val (.int v3_), .unset, .unset, .unset, .unset, .unset] [(.int p4)])) (fun tT kK => ?_) ?_
  · show Steps pP.tables eE below (T2_.setTop (mkF mM 10 #[.val (.int p1), .val (.int p2), .val (.int p3), .val (.int p4), .val (.int p5), .val (.int v2_), .unset, .unset, .unset, .unset, .unset, .unset] [(.int v3_)])) tT
    refine XS.istore X2_.here hx rfl (Jvm.hb hby at_10) rfl (l' := #[.val (.int p1), .val (.int p2), .val (.int p3), .val (.int p4), .val (.int p5), .val (.int v2_), .val (.int v3_), .unset, .unset, .unset, .unset, .unset]) rfl ?_
    show Steps pP.tables eE below (T2_.setTop (mkF mM 12 #[.val (.int p1), .val (.int p2), .val (.int p3), .val (.int p4), .val (.int p5), .val (.int v2_), .val (.int v3_), .unset, .unset, .unset, .unset, .unset] [])) tT
    refine XS.iloadN X2_.here hx rfl (Jvm.hb hby at_12) rfl ?_
    show Steps pP.tables eE below (T2_.setTop (mkF mM 13 #[.val (.int p1), .val (.int p2), .val (.int p3), .val (.int p4), .val (.int p5), .val (.int v2_), .val (.int v3_), .unset, .unset, .unset, .unset, .unset] [(.int p4)])) tT
    exact kK
  obtain ⟨_, _, ⟨T3_, L3_, k3_, n3_⟩, -, X3_, ⟨Lc3_, hQ3_, l3_, y3_, z3_⟩, st3_⟩ := Jvm.LawKit.callS X2_ hx (y := (⟨"com/example/method_to_query/methodtoquery/derivation/SpecialParametersAnyPinLaw", "index", "(I)I"⟩ : MethodName)) hown (mvT hZ (hw _ (List.mem_of_getElem? (i := 0) rfl))) (mvT hZ (hw _ (List.mem_of_getElem? (i := 1) rfl))) (mvT hZ (hw _ (List.mem_of_getElem? (i := 2) rfl))) (mvT hZ (hw _ (List.mem_of_getElem? (i := 3) rfl))) (by decide) (backOf (W := 0) (rm_index lL Z a0 hw [] p4 h0 n0 (Nat.le_trans Z0 K0.1) ) hZ (hw _ (List.mem_of_getElem? (i := 3) rfl)) (hw _ (List.mem_of_getElem? (i := 2) rfl)) (by decide) (by decide)) (g := (mkF mM 13 #[.val (.int p1), .val (.int p2), .val (.int p3), .val (.int p4), .val (.int p5), .val (.int v2_), .val (.int v3_), .unset, .unset, .unset, .unset, .unset] [(.int p4)])) rfl (by rw [hml]; rfl) (argsL := [(.int p4)]) (rest := []) (lenOf own_pd1 rfl) rfl (by show 2 * 0 + _ ≤ _; exact Nat.le_of_eq rfl) (Jvm.hb hby at_13) (fun _ _ => ⟨rfl, p2__0, (by decide : 0 + 0 ≤ _), (by decide : 0 + 0 ≤ _)⟩)
  dsimp only [Pt.U, Pt.locs, Pt.cells, Pt.slots] at X3_ l3_ y3_ z3_ st3_ hQ3_
  subst l3_ y3_ z3_
  obtain ⟨rfl, N3_q, p3__0⟩ := hQ3_
  have N3_ := Fr.app N2_ N3_q
  refine own_fin (fun tT kK => st3_ tT kK) ?_
  show own_Fin pP eE below _ (T3_.setTop (mkF mM 16 #[.val (.int p1), .val (.int p2), .val (.int p3), .val (.int p4), .val (.int p5), .val (.int v2_), .val (.int v3_), .unset, .unset, .unset, .unset, .unset] [(.int (if p4 < (0 : Int32) then (-1 : Int32) else p4))]))
  show own_Fin pP eE below _ (T3_.setTop (mkF mM 16 #[.val (.int p1), .val (.int p2), .val (.int p3), .val (.int p4), .val (.int p5), .val (.int v2_), .val (.int v3_), .unset, .unset, .unset, .unset, .unset] [(.int (if p4 < (0 : Int32) then (-1 : Int32) else p4))]))
  generalize hv4_ : (if p4 < (0 : Int32) then (-1 : Int32) else p4) = v4_
  show own_Fin pP eE below _ (T3_.setTop (mkF mM 16 #[.val (.int p1), .val (.int p2), .val (.int p3), .val (.int p4), .val (.int p5), .val (.int v2_), .val (.int v3_), .unset, .unset, .unset, .unset, .unset] [(.int v4_)]))
  have hb4 := own_ix hv4_
  refine own_fin (b := T3_.setTop (mkF mM 20 #[.val (.int p1), .val (.int p2), .val (.int p3), .val (.int p4), .val (.int p5), .val (.int v2_), .val (.int v3_), .val (.int v4_), .unset, .unset, .unset, .unset] [(.int p5)])) (fun tT kK => ?_) ?_
  · show Steps pP.tables eE below (T3_.setTop (mkF mM 16 #[.val (.int p1), .val (.int p2), .val (.int p3), .val (.int p4), .val (.int p5), .val (.int v2_), .val (.int v3_), .unset, .unset, .unset, .unset, .unset] [(.int v4_)])) tT
    refine XS.istore X3_.here hx rfl (Jvm.hb hby at_16) rfl (l' := #[.val (.int p1), .val (.int p2), .val (.int p3), .val (.int p4), .val (.int p5), .val (.int v2_), .val (.int v3_), .val (.int v4_), .unset, .unset, .unset, .unset]) rfl ?_
    show Steps pP.tables eE below (T3_.setTop (mkF mM 18 #[.val (.int p1), .val (.int p2), .val (.int p3), .val (.int p4), .val (.int p5), .val (.int v2_), .val (.int v3_), .val (.int v4_), .unset, .unset, .unset, .unset] [])) tT
    refine XS.iload X3_.here hx rfl (Jvm.hb hby at_18) rfl ?_
    show Steps pP.tables eE below (T3_.setTop (mkF mM 20 #[.val (.int p1), .val (.int p2), .val (.int p3), .val (.int p4), .val (.int p5), .val (.int v2_), .val (.int v3_), .val (.int v4_), .unset, .unset, .unset, .unset] [(.int p5)])) tT
    exact kK
  obtain ⟨_, _, ⟨T4_, L4_, k4_, n4_⟩, -, X4_, ⟨Lc4_, hQ4_, l4_, y4_, z4_⟩, st4_⟩ := Jvm.LawKit.callS X3_ hx (y := (⟨"com/example/method_to_query/methodtoquery/derivation/SpecialParametersAnyPinLaw", "index", "(I)I"⟩ : MethodName)) hown (mvT hZ (hw _ (List.mem_of_getElem? (i := 0) rfl))) (mvT hZ (hw _ (List.mem_of_getElem? (i := 1) rfl))) (mvT hZ (hw _ (List.mem_of_getElem? (i := 2) rfl))) (mvT hZ (hw _ (List.mem_of_getElem? (i := 3) rfl))) (by decide) (backOf (W := 0) (rm_index lL Z a0 hw [] p5 h0 n0 (Nat.le_trans Z0 K0.1) ) hZ (hw _ (List.mem_of_getElem? (i := 3) rfl)) (hw _ (List.mem_of_getElem? (i := 2) rfl)) (by decide) (by decide)) (g := (mkF mM 20 #[.val (.int p1), .val (.int p2), .val (.int p3), .val (.int p4), .val (.int p5), .val (.int v2_), .val (.int v3_), .val (.int v4_), .unset, .unset, .unset, .unset] [(.int p5)])) rfl (by rw [hml]; rfl) (argsL := [(.int p5)]) (rest := []) (lenOf own_pd1 rfl) rfl (by show 2 * 0 + _ ≤ _; exact Nat.le_of_eq rfl) (Jvm.hb hby at_20) (fun _ _ => ⟨rfl, p3__0, (by decide : 0 + 0 ≤ _), (by decide : 0 + 0 ≤ _)⟩)
  dsimp only [Pt.U, Pt.locs, Pt.cells, Pt.slots] at X4_ l4_ y4_ z4_ st4_ hQ4_
  subst l4_ y4_ z4_
  obtain ⟨rfl, N4_q, p4__0⟩ := hQ4_
  have N4_ := Fr.app N3_ N4_q
  refine own_fin (fun tT kK => st4_ tT kK) ?_
  show own_Fin pP eE below _ (T4_.setTop (mkF mM 23 #[.val (.int p1), .val (.int p2), .val (.int p3), .val (.int p4), .val (.int p5), .val (.int v2_), .val (.int v3_), .val (.int v4_), .unset, .unset, .unset, .unset] [(.int (if p5 < (0 : Int32) then (-1 : Int32) else p5))]))
  show own_Fin pP eE below _ (T4_.setTop (mkF mM 23 #[.val (.int p1), .val (.int p2), .val (.int p3), .val (.int p4), .val (.int p5), .val (.int v2_), .val (.int v3_), .val (.int v4_), .unset, .unset, .unset, .unset] [(.int (if p5 < (0 : Int32) then (-1 : Int32) else p5))]))
  generalize hv5_ : (if p5 < (0 : Int32) then (-1 : Int32) else p5) = v5_
  show own_Fin pP eE below _ (T4_.setTop (mkF mM 23 #[.val (.int p1), .val (.int p2), .val (.int p3), .val (.int p4), .val (.int p5), .val (.int v2_), .val (.int v3_), .val (.int v4_), .unset, .unset, .unset, .unset] [(.int v5_)]))
  have hb5 := own_ix hv5_
  refine own_fin (b := T4_.setTop (mkF mM 25 #[.val (.int p1), .val (.int p2), .val (.int p3), .val (.int p4), .val (.int p5), .val (.int v2_), .val (.int v3_), .val (.int v4_), .val (.int v5_), .unset, .unset, .unset] [])) (fun tT kK => ?_) ?_
  · show Steps pP.tables eE below (T4_.setTop (mkF mM 23 #[.val (.int p1), .val (.int p2), .val (.int p3), .val (.int p4), .val (.int p5), .val (.int v2_), .val (.int v3_), .val (.int v4_), .unset, .unset, .unset, .unset] [(.int v5_)])) tT
    refine XS.istore X4_.here hx rfl (Jvm.hb hby at_23) rfl (l' := #[.val (.int p1), .val (.int p2), .val (.int p3), .val (.int p4), .val (.int p5), .val (.int v2_), .val (.int v3_), .val (.int v4_), .val (.int v5_), .unset, .unset, .unset]) rfl ?_
    show Steps pP.tables eE below (T4_.setTop (mkF mM 25 #[.val (.int p1), .val (.int p2), .val (.int p3), .val (.int p4), .val (.int p5), .val (.int v2_), .val (.int v3_), .val (.int v4_), .val (.int v5_), .unset, .unset, .unset] [])) tT
    exact kK
  obtain ⟨T5_, h5_, X5_, e5_, E5_, A5_, D5_, -, st5_⟩ := newO X4_ hx hZ hown (hw _ (List.mem_of_getElem? (i := 4) rfl)) (hw _ (List.mem_of_getElem? (i := 5) rfl)) (hw _ (List.mem_of_getElem? (i := 6) rfl)) p4__0 (g := (mkF mM 25 #[.val (.int p1), .val (.int p2), .val (.int p3), .val (.int p4), .val (.int p5), .val (.int v2_), .val (.int v3_), .val (.int v4_), .val (.int v5_), .unset, .unset, .unset] [])) rfl (Jvm.hb hby at_25) (by decide) (by decide)
  obtain ⟨b5_, g5_⟩ : ∃ z, z = h0.size := ⟨_, rfl⟩
  rw [← g5_] at A5_ D5_ st5_
  have sz_b5_ : h0.size ≤ b5_ := Nat.le_trans K0.1 (Nat.le_of_eq g5_.symm)
  have ge_b5_ : n0 ≤ b5_ := Nat.le_trans Z0 sz_b5_
  have K5_ := K0.ext E5_
  have F5__criteria : Fld Z h5_ b5_ "com/example/method_to_query/methodtoquery/derivation/SpecialParameters" "criteria" "I" (.int (0 : Int32)) := D5_ (Or.inr (hw _ (List.mem_of_getElem? (i := 19) rfl))) (ty := .int) (by decide)
  have F5__pageable : Fld Z h5_ b5_ "com/example/method_to_query/methodtoquery/derivation/SpecialParameters" "pageable" "I" (.int (0 : Int32)) := D5_ (Or.inr (hw _ (List.mem_of_getElem? (i := 21) rfl))) (ty := .int) (by decide)
  have F5__sort : Fld Z h5_ b5_ "com/example/method_to_query/methodtoquery/derivation/SpecialParameters" "sort" "I" (.int (0 : Int32)) := D5_ (Or.inr (hw _ (List.mem_of_getElem? (i := 23) rfl))) (ty := .int) (by decide)
  have F5__limit : Fld Z h5_ b5_ "com/example/method_to_query/methodtoquery/derivation/SpecialParameters" "limit" "I" (.int (0 : Int32)) := D5_ (Or.inr (hw _ (List.mem_of_getElem? (i := 25) rfl))) (ty := .int) (by decide)
  have F5__type : Fld Z h5_ b5_ "com/example/method_to_query/methodtoquery/derivation/SpecialParameters" "type" "I" (.int (0 : Int32)) := D5_ (Or.inr (hw _ (List.mem_of_getElem? (i := 27) rfl))) (ty := .int) (by decide)
  refine own_fin st5_ ?_
  show own_Fin pP eE below _ (T5_.setTop (mkF mM 28 #[.val (.int p1), .val (.int p2), .val (.int p3), .val (.int p4), .val (.int p5), .val (.int v2_), .val (.int v3_), .val (.int v4_), .val (.int v5_), .unset, .unset, .unset] [(.ref b5_)]))
  refine own_fin (b := T5_.setTop (mkF mM 38 #[.val (.int p1), .val (.int p2), .val (.int p3), .val (.int p4), .val (.int p5), .val (.int v2_), .val (.int v3_), .val (.int v4_), .val (.int v5_), .unset, .unset, .unset] [(.int v5_), (.int v4_), (.int v3_), (.int v2_), (.int p1), (.ref b5_), (.ref b5_)])) (fun tT kK => ?_) ?_
  · show Steps pP.tables eE below (T5_.setTop (mkF mM 28 #[.val (.int p1), .val (.int p2), .val (.int p3), .val (.int p4), .val (.int p5), .val (.int v2_), .val (.int v3_), .val (.int v4_), .val (.int v5_), .unset, .unset, .unset] [(.ref b5_)])) tT
    refine XS.dup X5_.here hx rfl (Jvm.hb hby at_28) rfl rfl ?_
    show Steps pP.tables eE below (T5_.setTop (mkF mM 29 #[.val (.int p1), .val (.int p2), .val (.int p3), .val (.int p4), .val (.int p5), .val (.int v2_), .val (.int v3_), .val (.int v4_), .val (.int v5_), .unset, .unset, .unset] [(.ref b5_), (.ref b5_)])) tT
    refine XS.iloadN X5_.here hx rfl (Jvm.hb hby at_29) rfl ?_
    show Steps pP.tables eE below (T5_.setTop (mkF mM 30 #[.val (.int p1), .val (.int p2), .val (.int p3), .val (.int p4), .val (.int p5), .val (.int v2_), .val (.int v3_), .val (.int v4_), .val (.int v5_), .unset, .unset, .unset] [(.int p1), (.ref b5_), (.ref b5_)])) tT
    refine XS.iload X5_.here hx rfl (Jvm.hb hby at_30) rfl ?_
    show Steps pP.tables eE below (T5_.setTop (mkF mM 32 #[.val (.int p1), .val (.int p2), .val (.int p3), .val (.int p4), .val (.int p5), .val (.int v2_), .val (.int v3_), .val (.int v4_), .val (.int v5_), .unset, .unset, .unset] [(.int v2_), (.int p1), (.ref b5_), (.ref b5_)])) tT
    refine XS.iload X5_.here hx rfl (Jvm.hb hby at_32) rfl ?_
    show Steps pP.tables eE below (T5_.setTop (mkF mM 34 #[.val (.int p1), .val (.int p2), .val (.int p3), .val (.int p4), .val (.int p5), .val (.int v2_), .val (.int v3_), .val (.int v4_), .val (.int v5_), .unset, .unset, .unset] [(.int v3_), (.int v2_), (.int p1), (.ref b5_), (.ref b5_)])) tT
    refine XS.iload X5_.here hx rfl (Jvm.hb hby at_34) rfl ?_
    show Steps pP.tables eE below (T5_.setTop (mkF mM 36 #[.val (.int p1), .val (.int p2), .val (.int p3), .val (.int p4), .val (.int p5), .val (.int v2_), .val (.int v3_), .val (.int v4_), .val (.int v5_), .unset, .unset, .unset] [(.int v4_), (.int v3_), (.int v2_), (.int p1), (.ref b5_), (.ref b5_)])) tT
    refine XS.iload X5_.here hx rfl (Jvm.hb hby at_36) rfl ?_
    show Steps pP.tables eE below (T5_.setTop (mkF mM 38 #[.val (.int p1), .val (.int p2), .val (.int p3), .val (.int p4), .val (.int p5), .val (.int v2_), .val (.int v3_), .val (.int v4_), .val (.int v5_), .unset, .unset, .unset] [(.int v5_), (.int v4_), (.int v3_), (.int v2_), (.int p1), (.ref b5_), (.ref b5_)])) tT
    exact kK
  obtain ⟨_, _, ⟨T6_, L6_, k6_, n6_⟩, -, X6_, ⟨Lc6_, hQ6_, l6_, y6_, z6_⟩, st6_⟩ := X5_.specialBack hx (y := (⟨"com/example/method_to_query/methodtoquery/derivation/SpecialParameters", "<init>", "(IIIII)V"⟩ : MethodName)) rfl hown (mvT hZ (hw _ (List.mem_of_getElem? (i := 7) rfl))) (mvT hZ (hw _ (List.mem_of_getElem? (i := 8) rfl))) (mvT hZ (hw _ (List.mem_of_getElem? (i := 9) rfl))) (by decide) (backOf (W := 1) (rm_init lL Z a0 hw [] b5_ p1 v2_ v3_ v4_ v5_ h5_ n0 (Nat.le_trans Z0 K5_.1) A5_ F5__criteria F5__pageable F5__sort F5__limit F5__type ge_b5_) hZ (hw _ (List.mem_of_getElem? (i := 9) rfl)) (hw _ (List.mem_of_getElem? (i := 6) rfl)) (by decide) (by decide)) (g := (mkF mM 38 #[.val (.int p1), .val (.int p2), .val (.int p3), .val (.int p4), .val (.int p5), .val (.int v2_), .val (.int v3_), .val (.int v4_), .val (.int v5_), .unset, .unset, .unset] [(.int v5_), (.int v4_), (.int v3_), (.int v2_), (.int p1), (.ref b5_), (.ref b5_)])) rfl (by rw [hml]; rfl) (Steps.refl _) (a := b5_) (argsL := [(.int p1), (.int v2_), (.int v3_), (.int v4_), (.int v5_)]) (rest := [(.ref b5_)]) (lenOf own_pd2 rfl) rfl (by show 2 * 0 + _ ≤ _; exact Nat.le_of_eq rfl) (Jvm.hb hby at_38) (fun _ _ => ⟨rfl, e5_, (by decide : 1 + 0 ≤ _), (by decide : 5 + 0 ≤ _)⟩)
  dsimp only [Pt.U, Pt.locs, Pt.cells, Pt.slots] at X6_ l6_ y6_ z6_ st6_ hQ6_
  subst l6_ y6_ z6_
  obtain ⟨rfl, N6_q, p6__0, p6__1, p6__2, p6__3, p6__4, p6__5, p6__6⟩ := hQ6_
  have N6_ := Fr.app N4_ N6_q
  have fc7_ := A5_.keep p6__0
  have K6_ := K5_.trans p6__0 (allS (Or.inr sz_b5_) all0)
  refine own_fin (fun tT kK => st6_.trans kK) ?_
  show own_Fin pP eE below _ (T6_.setTop (mkF mM 41 #[.val (.int p1), .val (.int p2), .val (.int p3), .val (.int p4), .val (.int p5), .val (.int v2_), .val (.int v3_), .val (.int v4_), .val (.int v5_), .unset, .unset, .unset] [(.ref b5_)]))
  refine own_fin (b := T6_.setTop (mkF mM 47 #[.val (.int p1), .val (.int p2), .val (.int p3), .val (.int p4), .val (.int p5), .val (.int v2_), .val (.int v3_), .val (.int v4_), .val (.int v5_), .val (.ref b5_), .unset, .unset] [(.int v3_), (.int v2_)])) (fun tT kK => ?_) ?_
  · show Steps pP.tables eE below (T6_.setTop (mkF mM 41 #[.val (.int p1), .val (.int p2), .val (.int p3), .val (.int p4), .val (.int p5), .val (.int v2_), .val (.int v3_), .val (.int v4_), .val (.int v5_), .unset, .unset, .unset] [(.ref b5_)])) tT
    refine XS.astore X6_.here hx rfl (Jvm.hb hby at_41) rfl rfl (l' := #[.val (.int p1), .val (.int p2), .val (.int p3), .val (.int p4), .val (.int p5), .val (.int v2_), .val (.int v3_), .val (.int v4_), .val (.int v5_), .val (.ref b5_), .unset, .unset]) rfl ?_
    show Steps pP.tables eE below (T6_.setTop (mkF mM 43 #[.val (.int p1), .val (.int p2), .val (.int p3), .val (.int p4), .val (.int p5), .val (.int v2_), .val (.int v3_), .val (.int v4_), .val (.int v5_), .val (.ref b5_), .unset, .unset] [])) tT
    refine XS.iload X6_.here hx rfl (Jvm.hb hby at_43) rfl ?_
    show Steps pP.tables eE below (T6_.setTop (mkF mM 45 #[.val (.int p1), .val (.int p2), .val (.int p3), .val (.int p4), .val (.int p5), .val (.int v2_), .val (.int v3_), .val (.int v4_), .val (.int v5_), .val (.ref b5_), .unset, .unset] [(.int v2_)])) tT
    refine XS.iload X6_.here hx rfl (Jvm.hb hby at_45) rfl ?_
    show Steps pP.tables eE below (T6_.setTop (mkF mM 47 #[.val (.int p1), .val (.int p2), .val (.int p3), .val (.int p4), .val (.int p5), .val (.int v2_), .val (.int v3_), .val (.int v4_), .val (.int v5_), .val (.ref b5_), .unset, .unset] [(.int v3_), (.int v2_)])) tT
    exact kK
  obtain ⟨_, _, ⟨T8_, L8_, k8_, n8_⟩, -, X8_, ⟨Lc8_, hQ8_, l8_, y8_, z8_⟩, st8_⟩ := Jvm.LawKit.callS X6_ hx (y := (⟨"java/lang/Math", "max", "(II)I"⟩ : MethodName)) hown (mvT hZ (hw _ (List.mem_of_getElem? (i := 28) rfl))) (mvT hZ (hw _ (List.mem_of_getElem? (i := 29) rfl))) (mvT hZ (hw _ (List.mem_of_getElem? (i := 30) rfl))) (mvT hZ (hw _ (List.mem_of_getElem? (i := 31) rfl))) (by decide) (backOf (W := 0) (rm_max lL Z a0 hw [] v2_ v3_ T6_.heap n0 (Nat.le_trans Z0 K6_.1) ) hZ (hw _ (List.mem_of_getElem? (i := 31) rfl)) (hw _ (List.mem_of_getElem? (i := 30) rfl)) (by decide) (by decide)) (g := (mkF mM 47 #[.val (.int p1), .val (.int p2), .val (.int p3), .val (.int p4), .val (.int p5), .val (.int v2_), .val (.int v3_), .val (.int v4_), .val (.int v5_), .val (.ref b5_), .unset, .unset] [(.int v3_), (.int v2_)])) rfl (by rw [hml]; rfl) (argsL := [(.int v2_), (.int v3_)]) (rest := []) (lenOf own_pd3 rfl) rfl (by show 2 * 0 + _ ≤ _; exact Nat.le_of_eq rfl) (Jvm.hb hby at_47) (fun _ _ => ⟨rfl, rfl, (by decide : 1 + 0 ≤ _), (by decide : 5 + 0 ≤ _)⟩)
  dsimp only [Pt.U, Pt.locs, Pt.cells, Pt.slots] at X8_ l8_ y8_ z8_ st8_ hQ8_
  subst l8_ y8_ z8_
  obtain ⟨rfl, N8_q, p8__0⟩ := hQ8_
  have N8_ := Fr.app N6_ N8_q
  refine own_fin (fun tT kK => st8_ tT kK) ?_
  show own_Fin pP eE below _ (T8_.setTop (mkF mM 50 #[.val (.int p1), .val (.int p2), .val (.int p3), .val (.int p4), .val (.int p5), .val (.int v2_), .val (.int v3_), .val (.int v4_), .val (.int v5_), .val (.ref b5_), .unset, .unset] [(.int (if v2_ < v3_ then v3_ else v2_))]))
  show own_Fin pP eE below _ (T8_.setTop (mkF mM 50 #[.val (.int p1), .val (.int p2), .val (.int p3), .val (.int p4), .val (.int p5), .val (.int v2_), .val (.int v3_), .val (.int v4_), .val (.int v5_), .val (.ref b5_), .unset, .unset] [(.int (if v2_ < v3_ then v3_ else v2_))]))
  generalize hm1_ : (if v2_ < v3_ then v3_ else v2_) = m1_
  show own_Fin pP eE below _ (T8_.setTop (mkF mM 50 #[.val (.int p1), .val (.int p2), .val (.int p3), .val (.int p4), .val (.int p5), .val (.int v2_), .val (.int v3_), .val (.int v4_), .val (.int v5_), .val (.ref b5_), .unset, .unset] [(.int m1_)]))
  refine own_fin (b := T8_.setTop (mkF mM 54 #[.val (.int p1), .val (.int p2), .val (.int p3), .val (.int p4), .val (.int p5), .val (.int v2_), .val (.int v3_), .val (.int v4_), .val (.int v5_), .val (.ref b5_), .unset, .unset] [(.int v5_), (.int v4_), (.int m1_)])) (fun tT kK => ?_) ?_
  · show Steps pP.tables eE below (T8_.setTop (mkF mM 50 #[.val (.int p1), .val (.int p2), .val (.int p3), .val (.int p4), .val (.int p5), .val (.int v2_), .val (.int v3_), .val (.int v4_), .val (.int v5_), .val (.ref b5_), .unset, .unset] [(.int m1_)])) tT
    refine XS.iload X8_.here hx rfl (Jvm.hb hby at_50) rfl ?_
    show Steps pP.tables eE below (T8_.setTop (mkF mM 52 #[.val (.int p1), .val (.int p2), .val (.int p3), .val (.int p4), .val (.int p5), .val (.int v2_), .val (.int v3_), .val (.int v4_), .val (.int v5_), .val (.ref b5_), .unset, .unset] [(.int v4_), (.int m1_)])) tT
    refine XS.iload X8_.here hx rfl (Jvm.hb hby at_52) rfl ?_
    show Steps pP.tables eE below (T8_.setTop (mkF mM 54 #[.val (.int p1), .val (.int p2), .val (.int p3), .val (.int p4), .val (.int p5), .val (.int v2_), .val (.int v3_), .val (.int v4_), .val (.int v5_), .val (.ref b5_), .unset, .unset] [(.int v5_), (.int v4_), (.int m1_)])) tT
    exact kK
  obtain ⟨_, _, ⟨T9_, L9_, k9_, n9_⟩, -, X9_, ⟨Lc9_, hQ9_, l9_, y9_, z9_⟩, st9_⟩ := Jvm.LawKit.callS X8_ hx (y := (⟨"java/lang/Math", "max", "(II)I"⟩ : MethodName)) hown (mvT hZ (hw _ (List.mem_of_getElem? (i := 28) rfl))) (mvT hZ (hw _ (List.mem_of_getElem? (i := 29) rfl))) (mvT hZ (hw _ (List.mem_of_getElem? (i := 30) rfl))) (mvT hZ (hw _ (List.mem_of_getElem? (i := 31) rfl))) (by decide) (backOf (W := 1) (rm_max lL Z a0 hw [] v4_ v5_ T6_.heap n0 (Nat.le_trans Z0 K6_.1) ) hZ (hw _ (List.mem_of_getElem? (i := 31) rfl)) (hw _ (List.mem_of_getElem? (i := 30) rfl)) (by decide) (by decide)) (g := (mkF mM 54 #[.val (.int p1), .val (.int p2), .val (.int p3), .val (.int p4), .val (.int p5), .val (.int v2_), .val (.int v3_), .val (.int v4_), .val (.int v5_), .val (.ref b5_), .unset, .unset] [(.int v5_), (.int v4_), (.int m1_)])) rfl (by rw [hml]; rfl) (argsL := [(.int v4_), (.int v5_)]) (rest := [(.int m1_)]) (lenOf own_pd3 rfl) rfl (by show 2 * 0 + _ ≤ _; exact Nat.le_of_eq rfl) (Jvm.hb hby at_54) (fun _ _ => ⟨rfl, p8__0, (by decide : 1 + 0 ≤ _), (by decide : 5 + 0 ≤ _)⟩)
  dsimp only [Pt.U, Pt.locs, Pt.cells, Pt.slots] at X9_ l9_ y9_ z9_ st9_ hQ9_
  subst l9_ y9_ z9_
  obtain ⟨rfl, N9_q, p9__0⟩ := hQ9_
  have N9_ := Fr.app N8_ N9_q
  refine own_fin (fun tT kK => st9_ tT kK) ?_
  show own_Fin pP eE below _ (T9_.setTop (mkF mM 57 #[.val (.int p1), .val (.int p2), .val (.int p3), .val (.int p4), .val (.int p5), .val (.int v2_), .val (.int v3_), .val (.int v4_), .val (.int v5_), .val (.ref b5_), .unset, .unset] [(.int (if v4_ < v5_ then v5_ else v4_)), (.int m1_)]))
  show own_Fin pP eE below _ (T9_.setTop (mkF mM 57 #[.val (.int p1), .val (.int p2), .val (.int p3), .val (.int p4), .val (.int p5), .val (.int v2_), .val (.int v3_), .val (.int v4_), .val (.int v5_), .val (.ref b5_), .unset, .unset] [(.int (if v4_ < v5_ then v5_ else v4_)), (.int m1_)]))
  generalize hm2_ : (if v4_ < v5_ then v5_ else v4_) = m2_
  show own_Fin pP eE below _ (T9_.setTop (mkF mM 57 #[.val (.int p1), .val (.int p2), .val (.int p3), .val (.int p4), .val (.int p5), .val (.int v2_), .val (.int v3_), .val (.int v4_), .val (.int v5_), .val (.ref b5_), .unset, .unset] [(.int m2_), (.int m1_)]))
  obtain ⟨_, _, ⟨T10_, L10_, k10_, n10_⟩, -, X10_, ⟨Lc10_, hQ10_, l10_, y10_, z10_⟩, st10_⟩ := Jvm.LawKit.callS X9_ hx (y := (⟨"java/lang/Math", "max", "(II)I"⟩ : MethodName)) hown (mvT hZ (hw _ (List.mem_of_getElem? (i := 28) rfl))) (mvT hZ (hw _ (List.mem_of_getElem? (i := 29) rfl))) (mvT hZ (hw _ (List.mem_of_getElem? (i := 30) rfl))) (mvT hZ (hw _ (List.mem_of_getElem? (i := 31) rfl))) (by decide) (backOf (W := 0) (rm_max lL Z a0 hw [] m1_ m2_ T6_.heap n0 (Nat.le_trans Z0 K6_.1) ) hZ (hw _ (List.mem_of_getElem? (i := 31) rfl)) (hw _ (List.mem_of_getElem? (i := 30) rfl)) (by decide) (by decide)) (g := (mkF mM 57 #[.val (.int p1), .val (.int p2), .val (.int p3), .val (.int p4), .val (.int p5), .val (.int v2_), .val (.int v3_), .val (.int v4_), .val (.int v5_), .val (.ref b5_), .unset, .unset] [(.int m2_), (.int m1_)])) rfl (by rw [hml]; rfl) (argsL := [(.int m1_), (.int m2_)]) (rest := []) (lenOf own_pd3 rfl) rfl (by show 2 * 0 + _ ≤ _; exact Nat.le_of_eq rfl) (Jvm.hb hby at_57) (fun _ _ => ⟨rfl, p9__0, (by decide : 1 + 0 ≤ _), (by decide : 5 + 0 ≤ _)⟩)
  dsimp only [Pt.U, Pt.locs, Pt.cells, Pt.slots] at X10_ l10_ y10_ z10_ st10_ hQ10_
  subst l10_ y10_ z10_
  obtain ⟨rfl, N10_q, p10__0⟩ := hQ10_
  have N10_ := Fr.app N9_ N10_q
  refine own_fin (fun tT kK => st10_ tT kK) ?_
  show own_Fin pP eE below _ (T10_.setTop (mkF mM 60 #[.val (.int p1), .val (.int p2), .val (.int p3), .val (.int p4), .val (.int p5), .val (.int v2_), .val (.int v3_), .val (.int v4_), .val (.int v5_), .val (.ref b5_), .unset, .unset] [(.int (if m1_ < m2_ then m2_ else m1_))]))
  show own_Fin pP eE below _ (T10_.setTop (mkF mM 60 #[.val (.int p1), .val (.int p2), .val (.int p3), .val (.int p4), .val (.int p5), .val (.int v2_), .val (.int v3_), .val (.int v4_), .val (.int v5_), .val (.ref b5_), .unset, .unset] [(.int (if m1_ < m2_ then m2_ else m1_))]))
  generalize hm3_ : (if m1_ < m2_ then m2_ else m1_) = m3_
  show own_Fin pP eE below _ (T10_.setTop (mkF mM 60 #[.val (.int p1), .val (.int p2), .val (.int p3), .val (.int p4), .val (.int p5), .val (.int v2_), .val (.int v3_), .val (.int v4_), .val (.int v5_), .val (.ref b5_), .unset, .unset] [(.int m3_)]))
  refine own_fin (b := T10_.setTop (mkF mM 65 #[.val (.int p1), .val (.int p2), .val (.int p3), .val (.int p4), .val (.int p5), .val (.int v2_), .val (.int v3_), .val (.int v4_), .val (.int v5_), .val (.ref b5_), .val (.int m3_), .unset] [(.int (-1 : Int32)), (.int m3_)])) (fun tT kK => ?_) ?_
  · show Steps pP.tables eE below (T10_.setTop (mkF mM 60 #[.val (.int p1), .val (.int p2), .val (.int p3), .val (.int p4), .val (.int p5), .val (.int v2_), .val (.int v3_), .val (.int v4_), .val (.int v5_), .val (.ref b5_), .unset, .unset] [(.int m3_)])) tT
    refine XS.istore X10_.here hx rfl (Jvm.hb hby at_60) rfl (l' := #[.val (.int p1), .val (.int p2), .val (.int p3), .val (.int p4), .val (.int p5), .val (.int v2_), .val (.int v3_), .val (.int v4_), .val (.int v5_), .val (.ref b5_), .val (.int m3_), .unset]) rfl ?_
    show Steps pP.tables eE below (T10_.setTop (mkF mM 62 #[.val (.int p1), .val (.int p2), .val (.int p3), .val (.int p4), .val (.int p5), .val (.int v2_), .val (.int v3_), .val (.int v4_), .val (.int v5_), .val (.ref b5_), .val (.int m3_), .unset] [])) tT
    refine XS.iload X10_.here hx rfl (Jvm.hb hby at_62) rfl ?_
    show Steps pP.tables eE below (T10_.setTop (mkF mM 64 #[.val (.int p1), .val (.int p2), .val (.int p3), .val (.int p4), .val (.int p5), .val (.int v2_), .val (.int v3_), .val (.int v4_), .val (.int v5_), .val (.ref b5_), .val (.int m3_), .unset] [(.int m3_)])) tT
    refine XS.iconst X10_.here hx rfl (Jvm.hb hby at_64) ?_
    show Steps pP.tables eE below (T10_.setTop (mkF mM 65 #[.val (.int p1), .val (.int p2), .val (.int p3), .val (.int p4), .val (.int p5), .val (.int v2_), .val (.int v3_), .val (.int v4_), .val (.int v5_), .val (.ref b5_), .val (.int m3_), .unset] [(.int (-1 : Int32)), (.int m3_)])) tT
    exact kK
  by_cases hc65_11_ : m3_ = (-1 : Int32)
  · refine own_fin (b := T10_.setTop (mkF mM 77 #[.val (.int p1), .val (.int p2), .val (.int p3), .val (.int p4), .val (.int p5), .val (.int v2_), .val (.int v3_), .val (.int v4_), .val (.int v5_), .val (.ref b5_), .val (.int m3_), .val (.int (0 : Int32))] [(.ref b5_)])) (fun tT kK => ?_) ?_
    · show Steps pP.tables eE below (T10_.setTop (mkF mM 65 #[.val (.int p1), .val (.int p2), .val (.int p3), .val (.int p4), .val (.int p5), .val (.int v2_), .val (.int v3_), .val (.int v4_), .val (.int v5_), .val (.ref b5_), .val (.int m3_), .unset] [(.int (-1 : Int32)), (.int m3_)])) tT
      refine XS.icmpYes X10_.here hx rfl (pc0 := 65) (pc' := 72) rfl (Jvm.hb hby at_65) rfl (teq (hc65_11_ : m3_ = (-1 : Int32))).1 (by decide) (by decide) ?_
      show Steps pP.tables eE below (T10_.setTop (mkF mM 72 #[.val (.int p1), .val (.int p2), .val (.int p3), .val (.int p4), .val (.int p5), .val (.int v2_), .val (.int v3_), .val (.int v4_), .val (.int v5_), .val (.ref b5_), .val (.int m3_), .unset] [])) tT
      refine XS.iconst X10_.here hx rfl (Jvm.hb hby at_72) ?_
      show Steps pP.tables eE below (T10_.setTop (mkF mM 73 #[.val (.int p1), .val (.int p2), .val (.int p3), .val (.int p4), .val (.int p5), .val (.int v2_), .val (.int v3_), .val (.int v4_), .val (.int v5_), .val (.ref b5_), .val (.int m3_), .unset] [(.int (0 : Int32))])) tT
      refine XS.istore X10_.here hx rfl (Jvm.hb hby at_73) rfl (l' := #[.val (.int p1), .val (.int p2), .val (.int p3), .val (.int p4), .val (.int p5), .val (.int v2_), .val (.int v3_), .val (.int v4_), .val (.int v5_), .val (.ref b5_), .val (.int m3_), .val (.int (0 : Int32))]) rfl ?_
      show Steps pP.tables eE below (T10_.setTop (mkF mM 75 #[.val (.int p1), .val (.int p2), .val (.int p3), .val (.int p4), .val (.int p5), .val (.int v2_), .val (.int v3_), .val (.int v4_), .val (.int v5_), .val (.ref b5_), .val (.int m3_), .val (.int (0 : Int32))] [])) tT
      refine XS.aload X10_.here hx rfl (Jvm.hb hby at_75) rfl rfl ?_
      show Steps pP.tables eE below (T10_.setTop (mkF mM 77 #[.val (.int p1), .val (.int p2), .val (.int p3), .val (.int p4), .val (.int p5), .val (.int v2_), .val (.int v3_), .val (.int v4_), .val (.int v5_), .val (.ref b5_), .val (.int m3_), .val (.int (0 : Int32))] [(.ref b5_)])) tT
      exact kK
    obtain ⟨cq12_, kq12_, q12_a, q12_b, q12_c⟩ := isOf hZ p10__0 p6__1
    obtain ⟨_, _, ⟨T12_, L12_, k12_, n12_⟩, -, X12_, ⟨Lc12_, hQ12_, l12_, y12_, z12_⟩, st12_⟩ := X10_.virtualBack hx (y := (⟨"com/example/method_to_query/methodtoquery/derivation/SpecialParameters", "any", "()Z"⟩ : MethodName)) (z := (⟨"com/example/method_to_query/methodtoquery/derivation/SpecialParameters", "any", "()Z"⟩ : MethodName)) hown (mvT hZ (hw _ (List.mem_of_getElem? (i := 32) rfl))) (mvT hZ (hw _ (List.mem_of_getElem? (i := 33) rfl))) (notFace_of_selects (args := #[]) (mvT hZ (hw _ (List.mem_of_getElem? (i := 35) rfl)))) (mvT hZ (hw _ (List.mem_of_getElem? (i := 35) rfl))) (mvT hZ (hw _ (List.mem_of_getElem? (i := 34) rfl))) (by decide) (backOf (W := 0) (rm_any lL Z a0 hw [] b5_ v2_ v3_ v4_ v5_ T6_.heap n0 (Nat.le_trans Z0 K6_.1) p6__3 p6__4 p6__5 p6__6) hZ (hw _ (List.mem_of_getElem? (i := 36) rfl)) (hw _ (List.mem_of_getElem? (i := 6) rfl)) (by decide) (by decide)) q12_a q12_c (g := (mkF mM 77 #[.val (.int p1), .val (.int p2), .val (.int p3), .val (.int p4), .val (.int p5), .val (.int v2_), .val (.int v3_), .val (.int v4_), .val (.int v5_), .val (.ref b5_), .val (.int m3_), .val (.int (0 : Int32))] [(.ref b5_)])) rfl (by rw [hml]; rfl) (Steps.refl _) (argsL := []) (rest := []) (lenOf own_pd4 rfl) rfl (by show 2 * 0 + _ ≤ _; exact Nat.le_of_eq rfl) (Jvm.hb hby at_77) (fun _ _ => ⟨rfl, p10__0, (by decide : 1 + 0 ≤ _), (by decide : 5 + 0 ≤ _)⟩)
    dsimp only [Pt.U, Pt.locs, Pt.cells, Pt.slots] at X12_ l12_ y12_ z12_ st12_ hQ12_
    subst l12_ y12_ z12_
    obtain ⟨rfl, N12_q, p12__0⟩ := hQ12_
    have N12_ := Fr.app N10_ N12_q
    refine own_fin (fun tT kK => st12_.trans kK) ?_
    show own_Fin pP eE below _ (T12_.setTop (mkF mM 80 #[.val (.int p1), .val (.int p2), .val (.int p3), .val (.int p4), .val (.int p5), .val (.int v2_), .val (.int v3_), .val (.int v4_), .val (.int v5_), .val (.ref b5_), .val (.int m3_), .val (.int (0 : Int32))] [(.int (if v2_ < (0 : Int32) then (if v3_ < (0 : Int32) then (if v4_ < (0 : Int32) then (if v5_ < (0 : Int32) then (0 : Int32) else (1 : Int32)) else (1 : Int32)) else (1 : Int32)) else (1 : Int32)))]))
    refine own_fin (b := T12_.setTop (mkF mM 90 #[.val (.int p1), .val (.int p2), .val (.int p3), .val (.int p4), .val (.int p5), .val (.int v2_), .val (.int v3_), .val (.int v4_), .val (.int v5_), .val (.ref b5_), .val (.int m3_), .val (.int (0 : Int32))] [(.int (1 : Int32))])) (fun tT kK => ?_) ?_
    · show Steps pP.tables eE below (T12_.setTop (mkF mM 80 #[.val (.int p1), .val (.int p2), .val (.int p3), .val (.int p4), .val (.int p5), .val (.int v2_), .val (.int v3_), .val (.int v4_), .val (.int v5_), .val (.ref b5_), .val (.int m3_), .val (.int (0 : Int32))] [(.int (if v2_ < (0 : Int32) then (if v3_ < (0 : Int32) then (if v4_ < (0 : Int32) then (if v5_ < (0 : Int32) then (0 : Int32) else (1 : Int32)) else (1 : Int32)) else (1 : Int32)) else (1 : Int32)))])) tT
      refine XS.iload X12_.here hx rfl (Jvm.hb hby at_80) rfl ?_
      show Steps pP.tables eE below (T12_.setTop (mkF mM 82 #[.val (.int p1), .val (.int p2), .val (.int p3), .val (.int p4), .val (.int p5), .val (.int v2_), .val (.int v3_), .val (.int v4_), .val (.int v5_), .val (.ref b5_), .val (.int m3_), .val (.int (0 : Int32))] [(.int (0 : Int32)), (.int (if v2_ < (0 : Int32) then (if v3_ < (0 : Int32) then (if v4_ < (0 : Int32) then (if v5_ < (0 : Int32) then (0 : Int32) else (1 : Int32)) else (1 : Int32)) else (1 : Int32)) else (1 : Int32)))])) tT
      refine XS.icmpNo X12_.here hx rfl (Jvm.hb hby at_82) rfl (teq ((own_any hb2 hb3 hb4 hb5 hm1_ hm2_ hm3_).1 hc65_11_ : (if v2_ < (0 : Int32) then (if v3_ < (0 : Int32) then (if v4_ < (0 : Int32) then (if v5_ < (0 : Int32) then (0 : Int32) else (1 : Int32)) else (1 : Int32)) else (1 : Int32)) else (1 : Int32)) = (0 : Int32))).2 ?_
      show Steps pP.tables eE below (T12_.setTop (mkF mM 85 #[.val (.int p1), .val (.int p2), .val (.int p3), .val (.int p4), .val (.int p5), .val (.int v2_), .val (.int v3_), .val (.int v4_), .val (.int v5_), .val (.ref b5_), .val (.int m3_), .val (.int (0 : Int32))] [])) tT
      refine XS.iconst X12_.here hx rfl (Jvm.hb hby at_85) ?_
      show Steps pP.tables eE below (T12_.setTop (mkF mM 86 #[.val (.int p1), .val (.int p2), .val (.int p3), .val (.int p4), .val (.int p5), .val (.int v2_), .val (.int v3_), .val (.int v4_), .val (.int v5_), .val (.ref b5_), .val (.int m3_), .val (.int (0 : Int32))] [(.int (1 : Int32))])) tT
      refine XS.goto X12_.here hx rfl (pc0 := 86) (pc' := 90) rfl (Jvm.hb hby at_86) (by decide) (by decide) ?_
      show Steps pP.tables eE below (T12_.setTop (mkF mM 90 #[.val (.int p1), .val (.int p2), .val (.int p3), .val (.int p4), .val (.int p5), .val (.int v2_), .val (.int v3_), .val (.int v4_), .val (.int v5_), .val (.ref b5_), .val (.int m3_), .val (.int (0 : Int32))] [(.int (1 : Int32))])) tT
      exact kK
    obtain ⟨fs, hr, hrun, hended, hW, hsame⟩ := X12_.leave (v := some (.int (1 : Int32))) (fun h => by rw [Bd.returns] at h; cases h)
    refine ⟨_, _, ?_, hrun, hended, _, _, rfl, ?_, ⟨_, rfl⟩, hW, hsame.mono (by decide) (by decide)⟩
    · show Steps pP.tables eE below (T12_.setTop (mkF mM 90 #[.val (.int p1), .val (.int p2), .val (.int p3), .val (.int p4), .val (.int p5), .val (.int v2_), .val (.int v3_), .val (.int v4_), .val (.int v5_), .val (.ref b5_), .val (.int m3_), .val (.int (0 : Int32))] [(.int (1 : Int32))])) _
      exact retN X12_ hx (t := .boolean) Bd.returns (by simp) (Jvm.hb hby at_90) hr
    · show Q_rm0 Z p1 p2 p3 p4 p5 h0 n0 _ T12_.heap _
      rw [p12__0]
      exact ⟨rfl, N12_⟩
  · refine own_fin (b := T10_.setTop (mkF mM 77 #[.val (.int p1), .val (.int p2), .val (.int p3), .val (.int p4), .val (.int p5), .val (.int v2_), .val (.int v3_), .val (.int v4_), .val (.int v5_), .val (.ref b5_), .val (.int m3_), .val (.int (1 : Int32))] [(.ref b5_)])) (fun tT kK => ?_) ?_
    · show Steps pP.tables eE below (T10_.setTop (mkF mM 65 #[.val (.int p1), .val (.int p2), .val (.int p3), .val (.int p4), .val (.int p5), .val (.int v2_), .val (.int v3_), .val (.int v4_), .val (.int v5_), .val (.ref b5_), .val (.int m3_), .unset] [(.int (-1 : Int32)), (.int m3_)])) tT
      refine XS.icmpNo X10_.here hx rfl (Jvm.hb hby at_65) rfl (feq (hc65_11_ : ¬ (m3_ = (-1 : Int32)))).1 ?_
      show Steps pP.tables eE below (T10_.setTop (mkF mM 68 #[.val (.int p1), .val (.int p2), .val (.int p3), .val (.int p4), .val (.int p5), .val (.int v2_), .val (.int v3_), .val (.int v4_), .val (.int v5_), .val (.ref b5_), .val (.int m3_), .unset] [])) tT
      refine XS.iconst X10_.here hx rfl (Jvm.hb hby at_68) ?_
      show Steps pP.tables eE below (T10_.setTop (mkF mM 69 #[.val (.int p1), .val (.int p2), .val (.int p3), .val (.int p4), .val (.int p5), .val (.int v2_), .val (.int v3_), .val (.int v4_), .val (.int v5_), .val (.ref b5_), .val (.int m3_), .unset] [(.int (1 : Int32))])) tT
      refine XS.goto X10_.here hx rfl (pc0 := 69) (pc' := 73) rfl (Jvm.hb hby at_69) (by decide) (by decide) ?_
      show Steps pP.tables eE below (T10_.setTop (mkF mM 73 #[.val (.int p1), .val (.int p2), .val (.int p3), .val (.int p4), .val (.int p5), .val (.int v2_), .val (.int v3_), .val (.int v4_), .val (.int v5_), .val (.ref b5_), .val (.int m3_), .unset] [(.int (1 : Int32))])) tT
      refine XS.istore X10_.here hx rfl (Jvm.hb hby at_73) rfl (l' := #[.val (.int p1), .val (.int p2), .val (.int p3), .val (.int p4), .val (.int p5), .val (.int v2_), .val (.int v3_), .val (.int v4_), .val (.int v5_), .val (.ref b5_), .val (.int m3_), .val (.int (1 : Int32))]) rfl ?_
      show Steps pP.tables eE below (T10_.setTop (mkF mM 75 #[.val (.int p1), .val (.int p2), .val (.int p3), .val (.int p4), .val (.int p5), .val (.int v2_), .val (.int v3_), .val (.int v4_), .val (.int v5_), .val (.ref b5_), .val (.int m3_), .val (.int (1 : Int32))] [])) tT
      refine XS.aload X10_.here hx rfl (Jvm.hb hby at_75) rfl rfl ?_
      show Steps pP.tables eE below (T10_.setTop (mkF mM 77 #[.val (.int p1), .val (.int p2), .val (.int p3), .val (.int p4), .val (.int p5), .val (.int v2_), .val (.int v3_), .val (.int v4_), .val (.int v5_), .val (.ref b5_), .val (.int m3_), .val (.int (1 : Int32))] [(.ref b5_)])) tT
      exact kK
    obtain ⟨cq13_, kq13_, q13_a, q13_b, q13_c⟩ := isOf hZ p10__0 p6__1
    obtain ⟨_, _, ⟨T13_, L13_, k13_, n13_⟩, -, X13_, ⟨Lc13_, hQ13_, l13_, y13_, z13_⟩, st13_⟩ := X10_.virtualBack hx (y := (⟨"com/example/method_to_query/methodtoquery/derivation/SpecialParameters", "any", "()Z"⟩ : MethodName)) (z := (⟨"com/example/method_to_query/methodtoquery/derivation/SpecialParameters", "any", "()Z"⟩ : MethodName)) hown (mvT hZ (hw _ (List.mem_of_getElem? (i := 32) rfl))) (mvT hZ (hw _ (List.mem_of_getElem? (i := 33) rfl))) (notFace_of_selects (args := #[]) (mvT hZ (hw _ (List.mem_of_getElem? (i := 35) rfl)))) (mvT hZ (hw _ (List.mem_of_getElem? (i := 35) rfl))) (mvT hZ (hw _ (List.mem_of_getElem? (i := 34) rfl))) (by decide) (backOf (W := 0) (rm_any lL Z a0 hw [] b5_ v2_ v3_ v4_ v5_ T6_.heap n0 (Nat.le_trans Z0 K6_.1) p6__3 p6__4 p6__5 p6__6) hZ (hw _ (List.mem_of_getElem? (i := 36) rfl)) (hw _ (List.mem_of_getElem? (i := 6) rfl)) (by decide) (by decide)) q13_a q13_c (g := (mkF mM 77 #[.val (.int p1), .val (.int p2), .val (.int p3), .val (.int p4), .val (.int p5), .val (.int v2_), .val (.int v3_), .val (.int v4_), .val (.int v5_), .val (.ref b5_), .val (.int m3_), .val (.int (1 : Int32))] [(.ref b5_)])) rfl (by rw [hml]; rfl) (Steps.refl _) (argsL := []) (rest := []) (lenOf own_pd4 rfl) rfl (by show 2 * 0 + _ ≤ _; exact Nat.le_of_eq rfl) (Jvm.hb hby at_77) (fun _ _ => ⟨rfl, p10__0, (by decide : 1 + 0 ≤ _), (by decide : 5 + 0 ≤ _)⟩)
    dsimp only [Pt.U, Pt.locs, Pt.cells, Pt.slots] at X13_ l13_ y13_ z13_ st13_ hQ13_
    subst l13_ y13_ z13_
    obtain ⟨rfl, N13_q, p13__0⟩ := hQ13_
    have N13_ := Fr.app N10_ N13_q
    refine own_fin (fun tT kK => st13_.trans kK) ?_
    show own_Fin pP eE below _ (T13_.setTop (mkF mM 80 #[.val (.int p1), .val (.int p2), .val (.int p3), .val (.int p4), .val (.int p5), .val (.int v2_), .val (.int v3_), .val (.int v4_), .val (.int v5_), .val (.ref b5_), .val (.int m3_), .val (.int (1 : Int32))] [(.int (if v2_ < (0 : Int32) then (if v3_ < (0 : Int32) then (if v4_ < (0 : Int32) then (if v5_ < (0 : Int32) then (0 : Int32) else (1 : Int32)) else (1 : Int32)) else (1 : Int32)) else (1 : Int32)))]))
    refine own_fin (b := T13_.setTop (mkF mM 90 #[.val (.int p1), .val (.int p2), .val (.int p3), .val (.int p4), .val (.int p5), .val (.int v2_), .val (.int v3_), .val (.int v4_), .val (.int v5_), .val (.ref b5_), .val (.int m3_), .val (.int (1 : Int32))] [(.int (1 : Int32))])) (fun tT kK => ?_) ?_
    · show Steps pP.tables eE below (T13_.setTop (mkF mM 80 #[.val (.int p1), .val (.int p2), .val (.int p3), .val (.int p4), .val (.int p5), .val (.int v2_), .val (.int v3_), .val (.int v4_), .val (.int v5_), .val (.ref b5_), .val (.int m3_), .val (.int (1 : Int32))] [(.int (if v2_ < (0 : Int32) then (if v3_ < (0 : Int32) then (if v4_ < (0 : Int32) then (if v5_ < (0 : Int32) then (0 : Int32) else (1 : Int32)) else (1 : Int32)) else (1 : Int32)) else (1 : Int32)))])) tT
      refine XS.iload X13_.here hx rfl (Jvm.hb hby at_80) rfl ?_
      show Steps pP.tables eE below (T13_.setTop (mkF mM 82 #[.val (.int p1), .val (.int p2), .val (.int p3), .val (.int p4), .val (.int p5), .val (.int v2_), .val (.int v3_), .val (.int v4_), .val (.int v5_), .val (.ref b5_), .val (.int m3_), .val (.int (1 : Int32))] [(.int (1 : Int32)), (.int (if v2_ < (0 : Int32) then (if v3_ < (0 : Int32) then (if v4_ < (0 : Int32) then (if v5_ < (0 : Int32) then (0 : Int32) else (1 : Int32)) else (1 : Int32)) else (1 : Int32)) else (1 : Int32)))])) tT
      refine XS.icmpNo X13_.here hx rfl (Jvm.hb hby at_82) rfl (teq ((own_any hb2 hb3 hb4 hb5 hm1_ hm2_ hm3_).2 hc65_11_ : (if v2_ < (0 : Int32) then (if v3_ < (0 : Int32) then (if v4_ < (0 : Int32) then (if v5_ < (0 : Int32) then (0 : Int32) else (1 : Int32)) else (1 : Int32)) else (1 : Int32)) else (1 : Int32)) = (1 : Int32))).2 ?_
      show Steps pP.tables eE below (T13_.setTop (mkF mM 85 #[.val (.int p1), .val (.int p2), .val (.int p3), .val (.int p4), .val (.int p5), .val (.int v2_), .val (.int v3_), .val (.int v4_), .val (.int v5_), .val (.ref b5_), .val (.int m3_), .val (.int (1 : Int32))] [])) tT
      refine XS.iconst X13_.here hx rfl (Jvm.hb hby at_85) ?_
      show Steps pP.tables eE below (T13_.setTop (mkF mM 86 #[.val (.int p1), .val (.int p2), .val (.int p3), .val (.int p4), .val (.int p5), .val (.int v2_), .val (.int v3_), .val (.int v4_), .val (.int v5_), .val (.ref b5_), .val (.int m3_), .val (.int (1 : Int32))] [(.int (1 : Int32))])) tT
      refine XS.goto X13_.here hx rfl (pc0 := 86) (pc' := 90) rfl (Jvm.hb hby at_86) (by decide) (by decide) ?_
      show Steps pP.tables eE below (T13_.setTop (mkF mM 90 #[.val (.int p1), .val (.int p2), .val (.int p3), .val (.int p4), .val (.int p5), .val (.int v2_), .val (.int v3_), .val (.int v4_), .val (.int v5_), .val (.ref b5_), .val (.int m3_), .val (.int (1 : Int32))] [(.int (1 : Int32))])) tT
      exact kK
    obtain ⟨fs, hr, hrun, hended, hW, hsame⟩ := X13_.leave (v := some (.int (1 : Int32))) (fun h => by rw [Bd.returns] at h; cases h)
    refine ⟨_, _, ?_, hrun, hended, _, _, rfl, ?_, ⟨_, rfl⟩, hW, hsame.mono (by decide) (by decide)⟩
    · show Steps pP.tables eE below (T13_.setTop (mkF mM 90 #[.val (.int p1), .val (.int p2), .val (.int p3), .val (.int p4), .val (.int p5), .val (.int v2_), .val (.int v3_), .val (.int v4_), .val (.int v5_), .val (.ref b5_), .val (.int m3_), .val (.int (1 : Int32))] [(.int (1 : Int32))])) _
      exact retN X13_ hx (t := .boolean) Bd.returns (by simp) (Jvm.hb hby at_90) hr
    · show Q_rm0 Z p1 p2 p3 p4 p5 h0 n0 _ T13_.heap _
      rw [p13__0]
      exact ⟨rfl, N13_⟩
set_option maxRecDepth 65536 in
set_option maxHeartbeats 40000000 in
theorem comes_1 {Post : Tables → Env → Array Value → State → Outcome → State → Prop} (hpost : ∀ tb e args s v u, (limb_1_1.after args s (.returned v) u = true ∧ limb_1_2.after args s (.returned v) u = true ∧ True) → FrameEnd s (.returned v) u (Jvm.fieldLocs frame_1_writes args s ++ Jvm.arrayLocs frame_1_arrays args s ++ Jvm.staticLocs frame_1_statics s) 16 128 → Post tb e args s (.returned v) u) :
    ArmFor flags0 classFile x code maxLocals ret World_1 tables_1 room_1 Calls_1 rest_1 Pre_1 Post := by
  intro l hfl _ _ p e ha hc hk s m args below hf hA hF happ hP
  obtain ⟨hcalls, hrest, hpre⟩ := hP
  obtain ⟨-, -, -, hnamed, -, -, -, hat⟩ := (Spec.applies_iff hf).mp happ
  obtain ⟨hg, hn⟩ := and_e (Cond.before_iff.mp (show (Jvm.Cond.and given_1 narrow_1).before args s = true from hpre))
  obtain ⟨gg1, gg2⟩ := and_e hg
  obtain ⟨gg3, gg4⟩ := and_e gg2
  obtain ⟨gg5, gg6⟩ := and_e gg4
  obtain ⟨gg7, gg8⟩ := and_e gg6
  obtain ⟨gg9, gg10⟩ := and_e gg8
  obtain ⟨w0, w1, w2, w3, w4, rfl⟩ : ∃ w0 w1 w2 w3 w4 : Value, args = #[w0, w1, w2, w3, w4] := by
    have hs : args.size = 5 := by simpa [Cond.value, given_1] using gg1
    obtain ⟨L⟩ := args
    match L, hs with
    | [w0, w1, w2, w3, w4], _ => exact ⟨w0, w1, w2, w3, w4, rfl⟩
  have hw := fun d (hd : d ∈ tables_1) => atoms_spec (ws := Jvm.Cond.code x code maxLocals ret :: tables_1) hat d (List.mem_cons_of_mem _ hd)
  have hfit : Fit s := fun {y c} hc i hi => by
    obtain ⟨ha, rfl⟩ := Array.getElem?_eq_some_iff.mp hc
    have q := List.all_eq_true.mp ((Array.all_eq_true_iff_forall_mem.mp hF) _ (Array.getElem_mem ha)) i (List.mem_range.mpr hi)
    simpa [Array.getElem?_eq_getElem hi] using q
  obtain ⟨i0, ei0⟩ := is_v gg3
  obtain rfl : w0 = (.int i0) := Option.some.inj ei0
  obtain ⟨i1, ei1⟩ := is_v gg5
  obtain rfl : w1 = (.int i1) := Option.some.inj ei1
  obtain ⟨i2, ei2⟩ := is_v gg7
  obtain rfl : w2 = (.int i2) := Option.some.inj ei2
  obtain ⟨i3, ei3⟩ := is_v gg9
  obtain rfl : w3 = (.int i3) := Option.some.inj ei3
  obtain ⟨i4, ei4⟩ := is_v gg10
  obtain rfl : w4 = (.int i4) := Option.some.inj ei4
  obtain ⟨n, o, h1, h2, h3, _, L, rfl, ⟨rfl, N⟩, hq⟩ := rm0 l s _ hw tables_1 i0 i1 i2 i3 i4 s.heap s.heap.size (Nat.le_refl _)  p e ha hc hk s m _ below hf ((Spec.applies_iff_loose hf).mp happ).1 ⟨rfl, State.Warmed39.refl s, rfl⟩ trivial
  refine ⟨n, _, h1, h2, h3, hpost _ _ _ _ _ _ ⟨Cond.after_iff.mpr rfl, Cond.after_iff.mpr (eq_i res_at (Term.int_eval (1)) rfl), trivial⟩ ⟨hq.1, hq.2.1, (hq.2.2.sift fun y hy => Or.inr (N y hy)).mono (by decide) (by decide)⟩⟩
theorem main_1_1 : Claimed_1_1 := comes_1 fun _ _ _ _ _ _ h hF => ⟨h.1, hF⟩
theorem main_1_2 : Claimed_1_2 := comes_1 fun _ _ _ _ _ _ h hF => ⟨h.2.1, hF⟩
end Jvm.Pilot.@@N@@
namespace Jvm.Pilot.@@N@@
open Jvm Jvm.ClassFile Sem Op Lib Jvm.Free Jvm.Stand Jvm.Pilot.@@N@@.Jvm.D
/-! MADE BY PROGRAM (witnessworld.py) out of the Statement's table words and the real class files: 11 classes; the members and pool entries that the words name. The judged class is class 1, her method 2. -/
namespace start1
open Jvm.ClassFile
def u (s : String) : CpInfo := .utf8 (stringToUtf16 s)
/-- a pool by its gaps: so many unusable entries, then the entry; so many at the end -/
def gap : Nat → List CpInfo → List CpInfo
  | 0, r => r
  | n + 1, r => .unusable :: gap n r
def poolList (es : List (Nat × CpInfo)) (last : Nat) : List CpInfo := es.foldr (fun e r => gap e.1 (e.2 :: r)) (gap last [])
def pool (es : List (Nat × CpInfo)) (last : Nat) : Array CpInfo := ⟨poolList es last⟩
def fileOf (pool : Array CpInfo) (this : Nat) (attrs : Array Attribute := #[]) (ms : Array MethodInfo := #[]) (fl : Nat := 33) (sup : Nat := 0) (ifs : Array Nat := #[]) (fds : Array FieldInfo := #[]) : ClassFile where
  minorVersion := 0
  majorVersion := 65
  constantPool := pool
  accessFlags := fl
  thisClass := this
  superClass := sup
  interfaces := ifs
  fields := fds
  methods := ms
  attributes := attrs
def plain (name : String) (sup : Option ClassId) : Class where
  name := name
  kind := .ordinary
  loader := none
  accessFlags := 33
  super := sup
  interfaces := #[]
  cf := none
  fields := #[]
  methods := #[]
  instanceTypes := #[]
  staticTypes := #[]
  resolved := #[]
  callSites := []
  init := .initialized
  statics := none
  mirror := none

def pool0 : Array CpInfo := pool [(5, u "<init>"), (0, u "()V"), (1, .class_ 10), (1, u "java/lang/Object")] 113

def k0c0 : Code := { maxStack := 0, maxLocals := 1, code := object_method_1_code, exceptionTable := #[], attributes := #[] }
def k0m0 : Method := { name := "<init>", desc := "()V", sig := { parameters := [], returnType := none }, accessFlags := 1, code := some k0c0 }
/-- java/lang/Object -/
def k0 : Class := { plain "java/lang/Object" none with
  accessFlags := 33
  interfaces := #[]
  cf := some (fileOf pool0 8 #[] #[{ accessFlags := 1, nameIndex := 5, descriptorIndex := 6, attributes := #[] }] 33 0 #[] #[])
  fields := #[]
  methods := #[k0m0]
  instanceTypes := #[]
  staticTypes := #[]
  resolved := Array.replicate 124 none
  statics := none }

def pool1 : Array CpInfo := pool [(2, .class_ 4), (1, u "java/lang/Object"), (0, u "<init>"), (0, u "()V"), (0, .methodref 8 9), (0, .class_ 10), (0, .nameAndType 11 12), (0, u "com/example/method_to_query/methodtoquery/derivation/SpecialParametersAnyPinLaw"), (0, u "index"), (0, u "(I)I"), (0, .class_ 14), (0, u "com/example/method_to_query/methodtoquery/derivation/SpecialParameters"), (0, .methodref 13 16), (0, .nameAndType 5 17), (0, u "(IIIII)V"), (0, .methodref 19 20), (0, .class_ 21), (0, .nameAndType 22 23), (0, u "java/lang/Math"), (0, u "max"), (0, u "(II)I"), (0, .methodref 13 25), (0, .nameAndType 26 27), (0, u "any"), (0, u "()Z"), (3, u "law"), (0, u "(IIIII)Z")] 2

def k1m0 : Method := { name := "<init>", desc := "()V", sig := { parameters := [], returnType := none }, accessFlags := 2, code := none }
def k1c1 : Code := { maxStack := 1, maxLocals := 2, code := method_2_code, exceptionTable := #[], attributes := #[] }
def k1m1 : Method := { name := "index", desc := "(I)I", sig := { parameters := [.int], returnType := some .int }, accessFlags := 10, code := some k1c1 }
def k1c2 : Code := { maxStack := 7, maxLocals := 12, code := code, exceptionTable := #[], attributes := #[] }
def k1m2 : Method := { name := "law", desc := "(IIIII)Z", sig := { parameters := [.int, .int, .int, .int, .int], returnType := some .boolean }, accessFlags := 9, code := some k1c2 }
/-- com/example/method_to_query/methodtoquery/derivation/SpecialParametersAnyPinLaw -/
def k1 : Class := { plain "com/example/method_to_query/methodtoquery/derivation/SpecialParametersAnyPinLaw" (some 0) with
  accessFlags := 49
  interfaces := #[]
  cf := some (fileOf pool1 8 #[] #[{ accessFlags := 2, nameIndex := 5, descriptorIndex := 6, attributes := #[] }, { accessFlags := 10, nameIndex := 11, descriptorIndex := 12, attributes := #[] }, { accessFlags := 9, nameIndex := 31, descriptorIndex := 32, attributes := #[] }] 49 2 #[] #[])
  fields := #[]
  methods := #[k1m0, k1m1, k1m2]
  instanceTypes := #[]
  staticTypes := #[]
  resolved := Array.replicate 35 none
  statics := none }

def pool2 : Array CpInfo := pool [(1, .methodref 2 3), (0, .class_ 4), (0, .nameAndType 5 6), (0, u "java/lang/Object"), (0, u "<init>"), (0, u "()V"), (0, .class_ 8), (0, u "java/lang/Record")] 13

def k2c0 : Code := { maxStack := 1, maxLocals := 1, code := jdk_30_method_1_code, exceptionTable := #[], attributes := #[] }
def k2m0 : Method := { name := "<init>", desc := "()V", sig := { parameters := [], returnType := none }, accessFlags := 4, code := some k2c0 }
/-- java/lang/Record -/
def k2 : Class := { plain "java/lang/Record" (some 0) with
  accessFlags := 1057
  interfaces := #[]
  cf := some (fileOf pool2 7 #[] #[{ accessFlags := 4, nameIndex := 5, descriptorIndex := 6, attributes := #[] }] 1057 2 #[] #[])
  fields := #[]
  methods := #[k2m0]
  instanceTypes := #[]
  staticTypes := #[]
  resolved := Array.replicate 22 none
  statics := none }

def pool3 : Array CpInfo := pool [(1, .methodref 2 3), (0, .class_ 4), (0, .nameAndType 5 6), (0, u "java/lang/Record"), (0, u "<init>"), (0, u "()V"), (0, .fieldref 8 9), (0, .class_ 10), (0, .nameAndType 11 12), (0, u "com/example/method_to_query/methodtoquery/derivation/SpecialParameters"), (0, u "criteria"), (0, u "I"), (0, .fieldref 8 14), (0, .nameAndType 15 12), (0, u "pageable"), (0, .fieldref 8 17), (0, .nameAndType 18 12), (0, u "sort"), (0, .fieldref 8 20), (0, .nameAndType 21 12), (0, u "limit"), (0, .fieldref 8 23), (0, .nameAndType 24 12), (0, u "type"), (56, u "(IIIII)V"), (5, u "TYPES"), (0, u "Ljava/util/List;"), (11, u "()Z"), (114, u "any")] 45

def k3c0 : Code := { maxStack := 2, maxLocals := 6, code := prog_39_method_1_code, exceptionTable := #[], attributes := #[] }
def k3m0 : Method := { name := "<init>", desc := "(IIIII)V", sig := { parameters := [.int, .int, .int, .int, .int], returnType := none }, accessFlags := 0, code := some k3c0 }
def k3c1 : Code := { maxStack := 1, maxLocals := 1, code := prog_39_method_4_code, exceptionTable := #[], attributes := #[] }
def k3m1 : Method := { name := "any", desc := "()Z", sig := { parameters := [], returnType := some .boolean }, accessFlags := 0, code := some k3c1 }
/-- com/example/method_to_query/methodtoquery/derivation/SpecialParameters -/
def k3 : Class := { plain "com/example/method_to_query/methodtoquery/derivation/SpecialParameters" (some 2) with
  accessFlags := 48
  interfaces := #[]
  cf := some (fileOf pool3 8 #[] #[{ accessFlags := 0, nameIndex := 5, descriptorIndex := 81, attributes := #[] }, { accessFlags := 0, nameIndex := 215, descriptorIndex := 100, attributes := #[] }] 48 2 #[] #[{ accessFlags := 18, nameIndex := 11, descriptorIndex := 12, attributes := #[] }, { accessFlags := 18, nameIndex := 15, descriptorIndex := 12, attributes := #[] }, { accessFlags := 18, nameIndex := 18, descriptorIndex := 12, attributes := #[] }, { accessFlags := 18, nameIndex := 21, descriptorIndex := 12, attributes := #[] }, { accessFlags := 18, nameIndex := 24, descriptorIndex := 12, attributes := #[] }, { accessFlags := 26, nameIndex := 87, descriptorIndex := 88, attributes := #[] }])
  fields := #[{ name := "criteria", type := .int, accessFlags := 18, slot := 0, constantValue := 0 }, { name := "pageable", type := .int, accessFlags := 18, slot := 1, constantValue := 0 }, { name := "sort", type := .int, accessFlags := 18, slot := 2, constantValue := 0 }, { name := "limit", type := .int, accessFlags := 18, slot := 3, constantValue := 0 }, { name := "type", type := .int, accessFlags := 18, slot := 4, constantValue := 0 }, { name := "TYPES", type := (.object "java/util/List"), accessFlags := 26, slot := 0, constantValue := 0 }]
  methods := #[k3m0, k3m1]
  instanceTypes := #[.int, .int, .int, .int, .int]
  staticTypes := #[(.object "java/util/List")]
  resolved := Array.replicate 261 none
  statics := none }

def pool4 : Array CpInfo := pool [(1, .class_ 2), (0, u "java/lang/Math"), (1, .class_ 6), (1, u "java/lang/Object"), (0, u "<init>"), (0, u "()V"), (89, .class_ 100), (1, u "java/lang/Math$RandomNumberGeneratorHolder"), (71, u "negativeZeroFloatBits"), (0, u "J"), (2, u "negativeZeroDoubleBits"), (21, u "max"), (46, u "$assertionsDisabled"), (0, u "Z"), (88, u "(II)I"), (2, u "twoToTheDoubleScaleDown"), (0, u "D"), (4, u "twoToTheDoubleScaleUp"), (9, u "E"), (3, u "PI"), (2, u "TAU"), (2, u "DEGREES_TO_RADIANS"), (0, u "RADIANS_TO_DEGREES")] 94

def k4m0 : Method := { name := "<init>", desc := "()V", sig := { parameters := [], returnType := none }, accessFlags := 2, code := none }
def k4c1 : Code := { maxStack := 2, maxLocals := 2, code := jdk_29_method_65_code, exceptionTable := #[], attributes := #[] }
def k4m1 : Method := { name := "max", desc := "(II)I", sig := { parameters := [.int, .int], returnType := some .int }, accessFlags := 9, code := some k4c1 }
/-- java/lang/Math -/
def k4 : Class := { plain "java/lang/Math" (some 0) with
  accessFlags := 49
  interfaces := #[]
  cf := some (fileOf pool4 1 #[.nestMembers #[98]] #[{ accessFlags := 2, nameIndex := 7, descriptorIndex := 8, attributes := #[] }, { accessFlags := 9, nameIndex := 198, descriptorIndex := 335, attributes := #[] }] 49 4 #[] #[{ accessFlags := 25, nameIndex := 354, descriptorIndex := 339, attributes := #[] }, { accessFlags := 25, nameIndex := 358, descriptorIndex := 339, attributes := #[] }, { accessFlags := 25, nameIndex := 361, descriptorIndex := 339, attributes := #[] }, { accessFlags := 26, nameIndex := 364, descriptorIndex := 339, attributes := #[] }, { accessFlags := 26, nameIndex := 365, descriptorIndex := 339, attributes := #[] }, { accessFlags := 26, nameIndex := 172, descriptorIndex := 173, attributes := #[] }, { accessFlags := 26, nameIndex := 176, descriptorIndex := 173, attributes := #[] }, { accessFlags := 8, nameIndex := 344, descriptorIndex := 339, attributes := #[] }, { accessFlags := 8, nameIndex := 338, descriptorIndex := 339, attributes := #[] }, { accessFlags := 4120, nameIndex := 245, descriptorIndex := 246, attributes := #[] }])
  fields := #[{ name := "E", type := .double, accessFlags := 25, slot := 0, constantValue := 0 }, { name := "PI", type := .double, accessFlags := 25, slot := 1, constantValue := 0 }, { name := "TAU", type := .double, accessFlags := 25, slot := 2, constantValue := 0 }, { name := "DEGREES_TO_RADIANS", type := .double, accessFlags := 26, slot := 3, constantValue := 0 }, { name := "RADIANS_TO_DEGREES", type := .double, accessFlags := 26, slot := 4, constantValue := 0 }, { name := "negativeZeroFloatBits", type := .long, accessFlags := 26, slot := 5, constantValue := 0 }, { name := "negativeZeroDoubleBits", type := .long, accessFlags := 26, slot := 6, constantValue := 0 }, { name := "twoToTheDoubleScaleUp", type := .double, accessFlags := 8, slot := 7, constantValue := 0 }, { name := "twoToTheDoubleScaleDown", type := .double, accessFlags := 8, slot := 8, constantValue := 0 }, { name := "$assertionsDisabled", type := .boolean, accessFlags := 4120, slot := 9, constantValue := 0 }]
  methods := #[k4m0, k4m1]
  instanceTypes := #[]
  staticTypes := #[.double, .double, .double, .double, .double, .long, .long, .double, .double, .boolean]
  resolved := Array.replicate 460 none
  statics := none }

def pool5 : Array CpInfo := pool [(1, u "java/lang/Cloneable"), (0, .class_ 1), (0, u "java/lang/Object"), (0, .class_ 3)] 3

/-- java/lang/Cloneable -/
def k5 : Class := { plain "java/lang/Cloneable" (some 0) with
  accessFlags := 1537
  interfaces := #[]
  cf := some (fileOf pool5 2 #[] #[] 1537 4 #[] #[])
  fields := #[]
  methods := #[]
  instanceTypes := #[]
  staticTypes := #[]
  resolved := Array.replicate 8 none
  statics := none }

def pool6 : Array CpInfo := pool [(1, u "java/io/Serializable"), (0, .class_ 1), (0, u "java/lang/Object"), (0, .class_ 3)] 3

/-- java/io/Serializable -/
def k6 : Class := { plain "java/io/Serializable" (some 0) with
  accessFlags := 1537
  interfaces := #[]
  cf := some (fileOf pool6 2 #[] #[] 1537 4 #[] #[])
  fields := #[]
  methods := #[]
  instanceTypes := #[]
  staticTypes := #[]
  resolved := Array.replicate 8 none
  statics := none }

/-- the primitive byte -/
def k7 : Class := { plain "byte" none with kind := .primitive 'B', accessFlags := 0x411 }
/-- [B -/
def k8 : Class := { plain "[B" (some 0) with kind := .array 7 .byte, interfaces := #[5, 6], accessFlags := 1041 }

/-- the primitive int -/
def k9 : Class := { plain "int" none with kind := .primitive 'I', accessFlags := 0x411 }
/-- [I -/
def k10 : Class := { plain "[I" (some 0) with kind := .array 9 .int, interfaces := #[5, 6], accessFlags := 1041 }

def heap : Heap := #[]
def classes : Array Class := #[k0, k1, k2, k3, k4, k5, k6, k7, k8, k9, k10]
def interned : List (Array UInt16 × Addr) := []
def slotsUsed : Nat := 0
def theMethod : MethodId := ⟨1, 2⟩
def args0 : Array Value := #[.int 5, .int 5, .int 5, .int 5, .int 5]
def aboutOver (below : List Frame) : State where
  vm := { classes := classes, interned := interned.toArray }
  heap := heap
  slotsUsed := slotsUsed
  threads := #[{ frames := .invoking theMethod args0 :: below }]
def below0 : List Frame := [.native { method := ⟨0, 0⟩, args := #[] }]
def about1 : State := aboutOver below0
def p0 : Program := .bare "" "" ""
def e0 : Env := launch0.env 0 0 0
theorem w_frames : about1.frames = Frame.invoking theMethod args0 :: below0 := rfl
set_option maxRecDepth 65536 in
theorem w_args : argsFit about1.vm theMethod args0 = true := by decide +kernel
set_option maxRecDepth 65536 in
theorem w_heap : heapFits about1 = true := by decide +kernel
set_option maxRecDepth 65536 in
theorem w_runnable : about1.curStatus? = some .runnable := by decide +kernel
set_option maxRecDepth 65536 in
theorem w_alone : about1.alone = true := by decide +kernel
set_option maxRecDepth 65536 in
theorem w_named : about1.methodNamed? x = some theMethod := by decide +kernel
set_option maxRecDepth 65536 in
theorem w_hears : about1.hears theMethod below0 = true := by decide +kernel
set_option maxRecDepth 65536 in
theorem w_ripe : about1.ripe theMethod args0 below0 = true := by decide +kernel
theorem w_running : about1.status = .running := rfl
set_option maxRecDepth 65536 in
theorem w_room : about1.hasRoom e0.platform room_1 = true :=
  launch0.hasRoom_least _ room_1 (by decide +kernel) (by decide +kernel) (by decide +kernel) (by decide +kernel) (by decide +kernel) (by decide +kernel)
theorem allAtoms_all (ts : List Jvm.Cond) (a : Array Jvm.Value) (st : Jvm.State) : (allAtoms ts).before a st = ts.all (fun c => c.before a st) := by
  induction ts with
  | nil => rfl
  | cons c t ih =>
    show (Jvm.Cond.and c (allAtoms t)).before a st = _
    rw [Jvm.Cond.before_and, ih, List.all_cons]
def words1 : List Jvm.Cond := Jvm.Cond.code x code maxLocals ret :: tables_1
/-- a 'code' word, met by the world's own term for the bytes: nothing is compared byte by byte -/
theorem code_word {y : MethodName} {bytes : ByteArray} {mx : Nat} {rt : Option FieldType} {a : Array Value} {s : State} {m : MethodId} {meth : Method} {c : Code} (h1 : s.methodNamed? y = some m) (h2 : s.vm.method? m = some meth) (h3 : meth.code = some c) (h4 : c.code = bytes)
    (h5 : (c.maxLocals == mx && c.exceptionTable.isEmpty && decide (c.maxStack ≤ mostOperands) && decide (meth.sig.returnType = rt) && !meth.locks && decide (parseMethodDescriptor y.desc = some meth.sig)) = true) : (Jvm.Cond.code y bytes mx rt).before a s = true := by
  simp only [Bool.and_eq_true, beq_iff_eq, Bool.not_eq_true', decide_eq_true_eq] at h5
  obtain ⟨⟨⟨⟨⟨g1, g2⟩, g3⟩, g4⟩, g5⟩, g6⟩ := h5
  simp [Cond.before, Cond.holds, Cond.value, h1, h2, h3, h4, g1, g2, g3, g4, g5, g6]
def isCode : Jvm.Cond → Bool
  | .code _ _ _ _ => true
  | _ => false
theorem all_split {L : List Jvm.Cond} {P : Jvm.Cond → Bool} (h1 : L.all (fun c => isCode c || P c) = true) (h2 : ∀ c ∈ L.filter isCode, P c = true) : L.all P = true := by
  refine List.all_eq_true.mpr fun c hc => ?_
  have h := List.all_eq_true.mp h1 c hc
  rcases Bool.eq_false_or_eq_true (isCode c) with hi | hi
  · exact h2 c (List.mem_filter.mpr ⟨hc, hi⟩)
  · simpa [hi] using h
set_option maxRecDepth 65536 in
theorem w_c0 : (Jvm.Cond.code x code maxLocals ret).before args0 about1 = true := code_word (m := ⟨1, 2⟩) (meth := k1m2) (c := k1c2) (by decide +kernel) rfl rfl rfl (by decide +kernel)
set_option maxRecDepth 65536 in
theorem w_c1 : (Jvm.Cond.code ({ cls := "com/example/method_to_query/methodtoquery/derivation/SpecialParametersAnyPinLaw", name := "index", desc := "(I)I" } : Jvm.MethodName) method_2_code (2 : Nat) (Option.some Jvm.ClassFile.FieldType.int)).before args0 about1 = true := code_word (m := ⟨1, 1⟩) (meth := k1m1) (c := k1c1) (by decide +kernel) rfl rfl rfl (by decide +kernel)
set_option maxRecDepth 65536 in
theorem w_c2 : (Jvm.Cond.code ({ cls := "com/example/method_to_query/methodtoquery/derivation/SpecialParameters", name := "<init>", desc := "(IIIII)V" } : Jvm.MethodName) prog_39_method_1_code (6 : Nat) (Option.none : Option Jvm.ClassFile.FieldType)).before args0 about1 = true := code_word (m := ⟨3, 0⟩) (meth := k3m0) (c := k3c0) (by decide +kernel) rfl rfl rfl (by decide +kernel)
set_option maxRecDepth 65536 in
theorem w_c3 : (Jvm.Cond.code ({ cls := "java/lang/Record", name := "<init>", desc := "()V" } : Jvm.MethodName) jdk_30_method_1_code (1 : Nat) (Option.none : Option Jvm.ClassFile.FieldType)).before args0 about1 = true := code_word (m := ⟨2, 0⟩) (meth := k2m0) (c := k2c0) (by decide +kernel) rfl rfl rfl (by decide +kernel)
set_option maxRecDepth 65536 in
theorem w_c4 : (Jvm.Cond.code ({ cls := "java/lang/Object", name := "<init>", desc := "()V" } : Jvm.MethodName) object_method_1_code (1 : Nat) (Option.none : Option Jvm.ClassFile.FieldType)).before args0 about1 = true := code_word (m := ⟨0, 0⟩) (meth := k0m0) (c := k0c0) (by decide +kernel) rfl rfl rfl (by decide +kernel)
set_option maxRecDepth 65536 in
theorem w_c5 : (Jvm.Cond.code ({ cls := "java/lang/Math", name := "max", desc := "(II)I" } : Jvm.MethodName) jdk_29_method_65_code (2 : Nat) (Option.some Jvm.ClassFile.FieldType.int)).before args0 about1 = true := code_word (m := ⟨4, 1⟩) (meth := k4m1) (c := k4c1) (by decide +kernel) rfl rfl rfl (by decide +kernel)
set_option maxRecDepth 65536 in
theorem w_c6 : (Jvm.Cond.code ({ cls := "com/example/method_to_query/methodtoquery/derivation/SpecialParameters", name := "any", desc := "()Z" } : Jvm.MethodName) prog_39_method_4_code (1 : Nat) (Option.some Jvm.ClassFile.FieldType.boolean)).before args0 about1 = true := code_word (m := ⟨3, 1⟩) (meth := k3m1) (c := k3c1) (by decide +kernel) rfl rfl rfl (by decide +kernel)
def codes1 : List Jvm.Cond := [Jvm.Cond.code x code maxLocals ret, Jvm.Cond.code ({ cls := "com/example/method_to_query/methodtoquery/derivation/SpecialParametersAnyPinLaw", name := "index", desc := "(I)I" } : Jvm.MethodName) method_2_code (2 : Nat) (Option.some Jvm.ClassFile.FieldType.int), Jvm.Cond.code ({ cls := "com/example/method_to_query/methodtoquery/derivation/SpecialParameters", name := "<init>", desc := "(IIIII)V" } : Jvm.MethodName) prog_39_method_1_code (6 : Nat) (Option.none : Option Jvm.ClassFile.FieldType), Jvm.Cond.code ({ cls := "java/lang/Record", name := "<init>", desc := "()V" } : Jvm.MethodName) jdk_30_method_1_code (1 : Nat) (Option.none : Option Jvm.ClassFile.FieldType), Jvm.Cond.code ({ cls := "java/lang/Object", name := "<init>", desc := "()V" } : Jvm.MethodName) object_method_1_code (1 : Nat) (Option.none : Option Jvm.ClassFile.FieldType), Jvm.Cond.code ({ cls := "java/lang/Math", name := "max", desc := "(II)I" } : Jvm.MethodName) jdk_29_method_65_code (2 : Nat) (Option.some Jvm.ClassFile.FieldType.int), Jvm.Cond.code ({ cls := "com/example/method_to_query/methodtoquery/derivation/SpecialParameters", name := "any", desc := "()Z" } : Jvm.MethodName) prog_39_method_4_code (1 : Nat) (Option.some Jvm.ClassFile.FieldType.boolean)]
set_option maxRecDepth 65536 in
theorem codes_eq : words1.filter isCode = codes1 := rfl
theorem w_codes : ∀ c ∈ words1.filter isCode, c.before args0 about1 = true := by
  rw [codes_eq]
  intro c hc
  simp only [codes1, List.mem_cons, List.not_mem_nil, or_false] at hc
  rcases hc with rfl | rfl | rfl | rfl | rfl | rfl | rfl
  · exact w_c0
  · exact w_c1
  · exact w_c2
  · exact w_c3
  · exact w_c4
  · exact w_c5
  · exact w_c6
set_option maxRecDepth 65536 in
theorem w_t1 : (words1.take 24).all (fun c => isCode c || c.before args0 about1) = true := by decide +kernel
set_option maxRecDepth 65536 in
theorem w_t2 : (words1.drop 24).all (fun c => isCode c || c.before args0 about1) = true := by decide +kernel
theorem w_tables : (allAtoms (Jvm.Cond.code x code maxLocals ret :: tables_1)).before args0 about1 = true := by
  rw [allAtoms_all]
  show words1.all (fun c => c.before args0 about1) = true
  refine all_split ?_ w_codes
  rw [← List.take_append_drop 24 words1, List.all_append, w_t1, w_t2]
  rfl
set_option maxRecDepth 65536 in
theorem w_case : (Jvm.Cond.and given_1 narrow_1).before args0 about1 = true := by decide +kernel
theorem w_applies : (headSpec (Jvm.Cond.code x code maxLocals ret :: tables_1) room_1).applies x e0.platform about1 = true :=
  (Spec.applies_iff w_frames).mpr ⟨w_running, w_runnable, w_alone, w_named, w_hears, w_ripe, w_room, w_tables⟩
theorem atStart : AtStart classFile x code maxLocals ret World_1 tables_1 room_1 Calls_1 rest_1 Pre_1 launch0 p0 e0 about1 theMethod args0 below0 :=
  ⟨lists_1, trivial, launch0.admits_env _ _ _, launch0.least_env, fairChoices_fair.cas, fairChoices_fair.clock, w_frames, w_args, w_heap, w_applies, trivial, trivial, w_case⟩
end start1
theorem witness_1 : WitnessClaimed_1 := ⟨start1.p0, start1.e0, start1.about1, start1.theMethod, start1.args0, start1.below0, start1.atStart⟩
end Jvm.Pilot.@@N@@
