import JvmDerived
import JvmDerived.Pilot.@@N@@Statement
import JvmDerived.Pilot.@@N@@Code
set_option linter.unusedVariables false
set_option linter.unusedSimpArgs false
namespace Jvm.Pilot.@@N@@
open Jvm Jvm.ClassFile Sem Op Lib Jvm.Free Jvm.Stand Jvm.LawKit Jvm.RoadKit Bundle Jvm.Pilot.@@N@@.Jvm.D
def own_Fin (p : Program) (e : Env) (below : List Frame) (P : State → Outcome → Prop) (a : State) : Prop := ∃ t o, Steps p.tables e below a t ∧ t.status = .running ∧ Ended t below o ∧ P t o
theorem own_fin {p : Program} {e : Env} {below : List Frame} {P : State → Outcome → Prop} {a b : State} (k : ∀ t, Steps p.tables e below b t → Steps p.tables e below a t) (h : own_Fin p e below P b) : own_Fin p e below P a := by
  obtain ⟨t, o, s, r⟩ := h
  exact ⟨t, o, k t s, r⟩
theorem own_rw {T : State} {h : Heap} {a : Addr} {c : Cell} (e : T.heap = h) (q : h[a]? = some c) : T.heap[a]? = some c := by rw [e]; exact q
theorem own_StaKeep {Z : State} {h : Heap} {C n d : String} {v : Value} {n0 : Nat} (O : Old Z n0 h) (F : Sta Z Z.heap C n d v) : Sta Z h C n d v := F.ext O.2

theorem own_z : (0 : Int32).toInt = 0 := rfl
theorem own_d (n : Int32) : (0 ≤ n.toInt → (n / (12 : Int32)).toInt = n.toInt / 12) ∧ (n.toInt < 0 → (n / (12 : Int32)).toInt = -((-n.toInt) / 12)) := c_idiv n 12 12 rfl (by decide)
theorem own_m (n : Int32) : (0 ≤ n.toInt → (n % (12 : Int32)).toInt = n.toInt % 12) ∧ (n.toInt < 0 → (n % (12 : Int32)).toInt = -((-n.toInt) % 12)) := c_irem n 12 12 rfl
theorem own_a1 {n : Int32} (h : ¬ n < (0 : Int32)) : ¬ (n % (12 : Int32)) < (0 : Int32) := by
  rw [Int32.lt_iff_toInt_lt, own_z] at *
  have := (own_m n).1 (by omega); omega
theorem own_a2 {n : Int32} (h : ¬ n < (0 : Int32)) : (n % (12 : Int32)) < (12 : Int32) := by
  have e : (12 : Int32).toInt = 12 := rfl
  rw [Int32.lt_iff_toInt_lt] at *
  rw [own_z] at h
  have := (own_m n).1 (by omega); omega
theorem own_b1 {n : Int32} (h : n < (0 : Int32)) : ¬ (0 : Int32) < (n % (12 : Int32)) := by
  rw [Int32.lt_iff_toInt_lt, own_z] at *
  have := (own_m n).2 (by omega); omega
theorem own_b2 {n : Int32} (h : n < (0 : Int32)) : (-12 : Int32) < (n % (12 : Int32)) := by
  have e : (-12 : Int32).toInt = -12 := rfl
  rw [Int32.lt_iff_toInt_lt] at *
  rw [own_z] at h
  have := (own_m n).2 (by omega); omega
theorem own_back (n : Int32) : ((n / (12 : Int32)).toInt64 * (12 : Int64)) + (n % (12 : Int32)).toInt64 = n.toInt64 := by
  apply Int64.toInt_inj.mp
  have a := c_ladd ((n / (12 : Int32)).toInt64 * (12 : Int64)) (n % (12 : Int32)).toInt64
  have b := c_lmul (n / (12 : Int32)).toInt64 (12 : Int64)
  have e : (12 : Int64).toInt = 12 := rfl
  rw [e] at b
  have r1 := rng64 ((n / (12 : Int32)).toInt64 * (12 : Int64))
  have r2 := rng64 (((n / (12 : Int32)).toInt64 * (12 : Int64)) + (n % (12 : Int32)).toInt64)
  have r := rng32 n
  simp only [c_i2l] at *
  by_cases h : n.toInt < 0
  · have d := (own_d n).2 h; have m := (own_m n).2 h; omega
  · have h : 0 ≤ n.toInt := by omega
    have d := (own_d n).1 h; have m := (own_m n).1 h; omega
theorem own_d2_0 : decode prog_10_method_1_code 0 = .ok (.aload_n 0, 1) := by decide +kernel
theorem own_d2_1 : decode prog_10_method_1_code 1 = .ok (.invokespecial 1, 3) := by decide +kernel
theorem own_d2_4 : decode prog_10_method_1_code 4 = .ok (.aload_n 0, 1) := by decide +kernel
theorem own_d2_5 : decode prog_10_method_1_code 5 = .ok (.iload_n 1, 1) := by decide +kernel
theorem own_d2_6 : decode prog_10_method_1_code 6 = .ok (.putfield 7, 3) := by decide +kernel
theorem own_d2_9 : decode prog_10_method_1_code 9 = .ok (.aload_n 0, 1) := by decide +kernel
theorem own_d2_10 : decode prog_10_method_1_code 10 = .ok (.iload_n 2, 1) := by decide +kernel
theorem own_d2_11 : decode prog_10_method_1_code 11 = .ok (.putfield 13, 3) := by decide +kernel
theorem own_d2_14 : decode prog_10_method_1_code 14 = .ok (.aload_n 0, 1) := by decide +kernel
theorem own_d2_15 : decode prog_10_method_1_code 15 = .ok (.iload_n 3, 1) := by decide +kernel
theorem own_d2_16 : decode prog_10_method_1_code 16 = .ok (.putfield 16, 3) := by decide +kernel
theorem own_d2_19 : decode prog_10_method_1_code 19 = .ok (.return_, 1) := by decide +kernel
theorem own_pn_com_example_vestwright_vestwright_YearsMonthsDays : plainName "com/example/vestwright/vestwright/YearsMonthsDays" = true := by first | (simp [plainName, overriddenIn]; done) | decide +kernel
theorem own_ef_rm_init (mM : MethodId) (x0 : Addr) (x1 : Int32) (x2 : Int32) (x3 : Int32) : entryFrame mM #[(.ref x0), (.int x1), (.int x2), (.int x3)] 4 = mkF mM 0 #[.val (.ref x0), .val (.int x1), .val (.int x2), .val (.int x3)] [] := by first | (simp [entryFrame, mkF, argsToLocals, Value.category]; done) | rfl
def Q_rm_init (Z : State) (a : Addr) (p1 : Int32) (p2 : Int32) (p3 : Int32) (h0 : Heap) (n0 : Nat) (vV : Option Value) (hH : Heap) (lA : List Loc) : Prop := vV = none ∧ Fr n0 lA ∧ (Keep h0 hH [a]) ∧ (Exa Z hH a "com/example/vestwright/vestwright/YearsMonthsDays") ∧ (Fld Z hH a "com/example/vestwright/vestwright/YearsMonthsDays" "years" "I" (.int p1)) ∧ (Fld Z hH a "com/example/vestwright/vestwright/YearsMonthsDays" "months" "I" (.int p2)) ∧ (Fld Z hH a "com/example/vestwright/vestwright/YearsMonthsDays" "days" "I" (.int p3))
set_option maxRecDepth 65536 in
set_option maxHeartbeats 40000000 in
theorem rm_init (lL : Launch) (Z : State) (a0 : Array Value) (hw : ∀ d ∈ tables_1, d.before a0 Z = true) (ws : List Jvm.Cond) (a : Addr) (p1 : Int32) (p2 : Int32) (p3 : Int32) (h0 : Heap) (n0 : Nat) (Z0 : n0 ≤ h0.size) (Ea : Exa Z h0 a "com/example/vestwright/vestwright/YearsMonthsDays") (F1 : Fld Z h0 a "com/example/vestwright/vestwright/YearsMonthsDays" "years" "I" (.int (0 : Int32))) (F2 : Fld Z h0 a "com/example/vestwright/vestwright/YearsMonthsDays" "months" "I" (.int (0 : Int32))) (F3 : Fld Z h0 a "com/example/vestwright/vestwright/YearsMonthsDays" "days" "I" (.int (0 : Int32))) (ga : n0 ≤ a) :
    MetFree lL (⟨"com/example/vestwright/vestwright/YearsMonthsDays", "<init>", "(III)V"⟩ : MethodName) (head1 (Jvm.Cond.code (⟨"com/example/vestwright/vestwright/YearsMonthsDays", "<init>", "(III)V"⟩ : MethodName) prog_10_method_1_code 4 none :: ws) ({ frames := 1, cells := 0, slots := 0, locals := 12 } : Room)) (fun aA uU => aA = #[(.ref a), (.int p1), (.int p2), (.int p3)] ∧ Z.Warmed39 uU.vm ∧ uU.heap = h0) (fun _ _ _ _ _ => True) (fun _ uU oO uU' => ∃ vV lA, oO = .returned vV ∧ Q_rm_init Z a p1 p2 p3 h0 n0 vV uU'.heap lA ∧ FrameEnd uU oO uU' lA ({ frames := 1, cells := 0, slots := 0, locals := 12 } : Room).cells ({ frames := 1, cells := 0, slots := 0, locals := 12 } : Room).slots) := by
  refine MetFree.of_bodySF (plainFor_of_name own_pn_com_example_vestwright_vestwright_YearsMonthsDays) hisR ?_
  intro pP eE sS mM args below meth cC s₁ Bd hml0 hP hK
  obtain ⟨rfl, hZ, hh⟩ := hP
  have hx := Bd.exec
  have hby := Bd.bytes
  have hml : cC.maxLocals = 4 := hml0
  have hown : sS.vm.findClass "com/example/vestwright/vestwright/YearsMonthsDays" = some mM.cls := findClass_of_methodNamed Bd.named
  have hnm := (name_of_methodNamed Bd.named Bd.method).1
  have X0 : Stand pP lL eE ({ frames := 1, cells := 0, slots := 0, locals := 12 } : Room) sS mM #[(.ref a), (.int p1), (.int p2), (.int p3)] below meth cC s₁ [] 0 0 := Stand.of_body Bd
  have e0 : s₁.heap = h0 := by rw [← hh, Bd.state]; rfl
  have N0 := Fr.nil n0
  have K0 := Keep.refl h0 [a]
  show own_Fin pP eE below (fun tT oO => ∃ vV lA, oO = .returned vV ∧ Q_rm_init Z a p1 p2 p3 h0 n0 vV tT.heap lA ∧ FrameEnd sS oO tT lA ({ frames := 1, cells := 0, slots := 0, locals := 12 } : Room).cells ({ frames := 1, cells := 0, slots := 0, locals := 12 } : Room).slots) (s₁.setTop (entryFrame mM #[(.ref a), (.int p1), (.int p2), (.int p3)] 4))
  refine own_fin (b := s₁.setTop (mkF mM 0 #[.val (.ref a), .val (.int p1), .val (.int p2), .val (.int p3)] [])) (fun tT kK => castTop (own_ef_rm_init mM a p1 p2 p3) kK) ?_
  refine own_fin (b := s₁.setTop (mkF mM 1 #[.val (.ref a), .val (.int p1), .val (.int p2), .val (.int p3)] [(.ref a)])) (fun tT kK => ?_) ?_
  · show Steps pP.tables eE below (s₁.setTop (mkF mM 0 #[.val (.ref a), .val (.int p1), .val (.int p2), .val (.int p3)] [])) tT
    refine XS.aloadN X0.here hx rfl (Jvm.hb hby own_d2_0) rfl rfl ?_
    show Steps pP.tables eE below (s₁.setTop (mkF mM 1 #[.val (.ref a), .val (.int p1), .val (.int p2), .val (.int p3)] [(.ref a)])) tT
    exact kK
  obtain ⟨T1_, X1_, e1_, st1_⟩ := initO X0 hx hZ hown (hw _ (List.mem_of_getElem? (i := 9) rfl)) (hw _ (List.mem_of_getElem? (i := 10) rfl)) (hw _ (List.mem_of_getElem? (i := 11) rfl)) e0 (g := (mkF mM 1 #[.val (.ref a), .val (.int p1), .val (.int p2), .val (.int p3)] [(.ref a)])) rfl (by rw [hml]; rfl) rfl (Jvm.hb hby own_d2_1) (by decide) (W := 0) (by show 2 * 0 + _ ≤ _; exact Nat.le_of_eq rfl) (by decide)
  refine own_fin st1_ ?_
  show own_Fin pP eE below _ (T1_.setTop (mkF mM 4 #[.val (.ref a), .val (.int p1), .val (.int p2), .val (.int p3)] []))
  refine own_fin (b := T1_.setTop (mkF mM 6 #[.val (.ref a), .val (.int p1), .val (.int p2), .val (.int p3)] [(.int p1), (.ref a)])) (fun tT kK => ?_) ?_
  · show Steps pP.tables eE below (T1_.setTop (mkF mM 4 #[.val (.ref a), .val (.int p1), .val (.int p2), .val (.int p3)] [])) tT
    refine XS.aloadN X1_.here hx rfl (Jvm.hb hby own_d2_4) rfl rfl ?_
    show Steps pP.tables eE below (T1_.setTop (mkF mM 5 #[.val (.ref a), .val (.int p1), .val (.int p2), .val (.int p3)] [(.ref a)])) tT
    refine XS.iloadN X1_.here hx rfl (Jvm.hb hby own_d2_5) rfl ?_
    show Steps pP.tables eE below (T1_.setTop (mkF mM 6 #[.val (.ref a), .val (.int p1), .val (.int p2), .val (.int p3)] [(.int p1), (.ref a)])) tT
    exact kK
  obtain ⟨T2_, h2_, X2_, e2_, W2_, st2_⟩ := putF X1_ hx hZ hown (host := "") (Or.inl (hw _ (List.mem_of_getElem? (i := 12) rfl))) Via.refl e1_ F1 Ea (Or.inr ⟨(hw _ (List.mem_of_getElem? (i := 13) rfl)), rfl, hnm⟩) (hw _ (List.mem_of_getElem? (i := 5) rfl)) (ty := .int) (by decide) rfl rfl (g := (mkF mM 6 #[.val (.ref a), .val (.int p1), .val (.int p2), .val (.int p3)] [(.int p1), (.ref a)])) rfl rfl (Jvm.hb hby own_d2_6)
  have Fw2_ := F1.same W2_
  have fc3_ := Ea.wr W2_
  have fc4_ := F2.other W2_ (Or.inr (slot_ne (Or.inr (hw _ (List.mem_of_getElem? (i := 15) rfl))) (Or.inr (hw _ (List.mem_of_getElem? (i := 13) rfl))) (by decide) (t := .int) (t' := .int) (by decide) (by decide)))
  have fc5_ := F3.other W2_ (Or.inr (slot_ne (Or.inr (hw _ (List.mem_of_getElem? (i := 17) rfl))) (Or.inr (hw _ (List.mem_of_getElem? (i := 13) rfl))) (by decide) (t := .int) (t' := .int) (by decide) (by decide)))
  have K2_ := K0.wr W2_ (Or.inl (List.mem_of_getElem? (i := 0) rfl))
  have N2_ := Fr.snoc X2_ N0 ga
  refine own_fin st2_ ?_
  show own_Fin pP eE below _ (T2_.setTop (mkF mM 9 #[.val (.ref a), .val (.int p1), .val (.int p2), .val (.int p3)] []))
  refine own_fin (b := T2_.setTop (mkF mM 11 #[.val (.ref a), .val (.int p1), .val (.int p2), .val (.int p3)] [(.int p2), (.ref a)])) (fun tT kK => ?_) ?_
  · show Steps pP.tables eE below (T2_.setTop (mkF mM 9 #[.val (.ref a), .val (.int p1), .val (.int p2), .val (.int p3)] [])) tT
    refine XS.aloadN X2_.here hx rfl (Jvm.hb hby own_d2_9) rfl rfl ?_
    show Steps pP.tables eE below (T2_.setTop (mkF mM 10 #[.val (.ref a), .val (.int p1), .val (.int p2), .val (.int p3)] [(.ref a)])) tT
    refine XS.iloadN X2_.here hx rfl (Jvm.hb hby own_d2_10) rfl ?_
    show Steps pP.tables eE below (T2_.setTop (mkF mM 11 #[.val (.ref a), .val (.int p1), .val (.int p2), .val (.int p3)] [(.int p2), (.ref a)])) tT
    exact kK
  obtain ⟨T6_, h6_, X6_, e6_, W6_, st6_⟩ := putF X2_ hx hZ hown (host := "") (Or.inl (hw _ (List.mem_of_getElem? (i := 14) rfl))) Via.refl e2_ fc4_ fc3_ (Or.inr ⟨(hw _ (List.mem_of_getElem? (i := 15) rfl)), rfl, hnm⟩) (hw _ (List.mem_of_getElem? (i := 5) rfl)) (ty := .int) (by decide) rfl rfl (g := (mkF mM 11 #[.val (.ref a), .val (.int p1), .val (.int p2), .val (.int p3)] [(.int p2), (.ref a)])) rfl rfl (Jvm.hb hby own_d2_11)
  have Fw6_ := fc4_.same W6_
  have fc7_ := fc3_.wr W6_
  have fc8_ := Fw2_.other W6_ (Or.inr (slot_ne (Or.inr (hw _ (List.mem_of_getElem? (i := 13) rfl))) (Or.inr (hw _ (List.mem_of_getElem? (i := 15) rfl))) (by decide) (t := .int) (t' := .int) (by decide) (by decide)))
  have fc9_ := fc5_.other W6_ (Or.inr (slot_ne (Or.inr (hw _ (List.mem_of_getElem? (i := 17) rfl))) (Or.inr (hw _ (List.mem_of_getElem? (i := 15) rfl))) (by decide) (t := .int) (t' := .int) (by decide) (by decide)))
  have K6_ := K2_.wr W6_ (Or.inl (List.mem_of_getElem? (i := 0) rfl))
  have N6_ := Fr.snoc X6_ N2_ ga
  refine own_fin st6_ ?_
  show own_Fin pP eE below _ (T6_.setTop (mkF mM 14 #[.val (.ref a), .val (.int p1), .val (.int p2), .val (.int p3)] []))
  refine own_fin (b := T6_.setTop (mkF mM 16 #[.val (.ref a), .val (.int p1), .val (.int p2), .val (.int p3)] [(.int p3), (.ref a)])) (fun tT kK => ?_) ?_
  · show Steps pP.tables eE below (T6_.setTop (mkF mM 14 #[.val (.ref a), .val (.int p1), .val (.int p2), .val (.int p3)] [])) tT
    refine XS.aloadN X6_.here hx rfl (Jvm.hb hby own_d2_14) rfl rfl ?_
    show Steps pP.tables eE below (T6_.setTop (mkF mM 15 #[.val (.ref a), .val (.int p1), .val (.int p2), .val (.int p3)] [(.ref a)])) tT
    refine XS.iloadN X6_.here hx rfl (Jvm.hb hby own_d2_15) rfl ?_
    show Steps pP.tables eE below (T6_.setTop (mkF mM 16 #[.val (.ref a), .val (.int p1), .val (.int p2), .val (.int p3)] [(.int p3), (.ref a)])) tT
    exact kK
  obtain ⟨T10_, h10_, X10_, e10_, W10_, st10_⟩ := putF X6_ hx hZ hown (host := "") (Or.inl (hw _ (List.mem_of_getElem? (i := 16) rfl))) Via.refl e6_ fc9_ fc7_ (Or.inr ⟨(hw _ (List.mem_of_getElem? (i := 17) rfl)), rfl, hnm⟩) (hw _ (List.mem_of_getElem? (i := 5) rfl)) (ty := .int) (by decide) rfl rfl (g := (mkF mM 16 #[.val (.ref a), .val (.int p1), .val (.int p2), .val (.int p3)] [(.int p3), (.ref a)])) rfl rfl (Jvm.hb hby own_d2_16)
  have Fw10_ := fc9_.same W10_
  have fc11_ := fc7_.wr W10_
  have fc12_ := fc8_.other W10_ (Or.inr (slot_ne (Or.inr (hw _ (List.mem_of_getElem? (i := 13) rfl))) (Or.inr (hw _ (List.mem_of_getElem? (i := 17) rfl))) (by decide) (t := .int) (t' := .int) (by decide) (by decide)))
  have fc13_ := Fw6_.other W10_ (Or.inr (slot_ne (Or.inr (hw _ (List.mem_of_getElem? (i := 15) rfl))) (Or.inr (hw _ (List.mem_of_getElem? (i := 17) rfl))) (by decide) (t := .int) (t' := .int) (by decide) (by decide)))
  have K10_ := K6_.wr W10_ (Or.inl (List.mem_of_getElem? (i := 0) rfl))
  have N10_ := Fr.snoc X10_ N6_ ga
  refine own_fin st10_ ?_
  show own_Fin pP eE below _ (T10_.setTop (mkF mM 19 #[.val (.ref a), .val (.int p1), .val (.int p2), .val (.int p3)] []))
  obtain ⟨fs, hr, hrun, hended, hW, hsame⟩ := X10_.leave (v := none) (fun _ => rfl)
  refine ⟨_, _, ?_, hrun, hended, _, _, rfl, ?_, ⟨_, rfl⟩, hW, hsame.mono (by decide) (by decide)⟩
  · show Steps pP.tables eE below (T10_.setTop (mkF mM 19 #[.val (.ref a), .val (.int p1), .val (.int p2), .val (.int p3)] [])) _
    exact X10_.returnOut hx Bd.returns (Jvm.hb hby own_d2_19) hr
  · show Q_rm_init Z a p1 p2 p3 h0 n0 _ T10_.heap _
    rw [e10_]
    exact ⟨rfl, N10_, K10_, fc11_, fc12_, fc13_, Fw10_⟩
theorem own_d1_0 : decode prog_10_method_4_code 0 = .ok (.new 8, 3) := by decide +kernel
theorem own_d1_3 : decode prog_10_method_4_code 3 = .ok (.dup, 1) := by decide +kernel
theorem own_d1_4 : decode prog_10_method_4_code 4 = .ok (.iload_n 0, 1) := by decide +kernel
theorem own_d1_5 : decode prog_10_method_4_code 5 = .ok (.bipush 12, 2) := by decide +kernel
theorem own_d1_7 : decode prog_10_method_4_code 7 = .ok (.idiv, 1) := by decide +kernel
theorem own_d1_8 : decode prog_10_method_4_code 8 = .ok (.iload_n 0, 1) := by decide +kernel
theorem own_d1_9 : decode prog_10_method_4_code 9 = .ok (.bipush 12, 2) := by decide +kernel
theorem own_d1_11 : decode prog_10_method_4_code 11 = .ok (.irem, 1) := by decide +kernel
theorem own_d1_12 : decode prog_10_method_4_code 12 = .ok (.iconst 0, 1) := by decide +kernel
theorem own_d1_13 : decode prog_10_method_4_code 13 = .ok (.invokespecial 47, 3) := by decide +kernel
theorem own_pd0 : parseMethodDescriptor "(III)V" = some ⟨[.int, .int, .int], none⟩ := by decide +kernel
theorem own_d1_16 : decode prog_10_method_4_code 16 = .ok (.areturn, 1) := by decide +kernel
theorem own_ef_rm_of (mM : MethodId) (x0 : Int32) : entryFrame mM #[(.int x0)] 1 = mkF mM 0 #[.val (.int x0)] [] := by first | (simp [entryFrame, mkF, argsToLocals, Value.category]; done) | rfl
def Q_rm_of (Z : State) (p1 : Int32) (h0 : Heap) (n0 : Nat) (vV : Option Value) (hH : Heap) (lA : List Loc) : Prop := ∃ b : Addr, vV = some (.ref b) ∧ Fr n0 lA ∧ (Keep h0 hH []) ∧ (h0.size ≤ b) ∧ (Exa Z hH b "com/example/vestwright/vestwright/YearsMonthsDays") ∧ (Fld Z hH b "com/example/vestwright/vestwright/YearsMonthsDays" "years" "I" (.int (p1 / (12 : Int32)))) ∧ (Fld Z hH b "com/example/vestwright/vestwright/YearsMonthsDays" "months" "I" (.int (p1 % (12 : Int32)))) ∧ (Fld Z hH b "com/example/vestwright/vestwright/YearsMonthsDays" "days" "I" (.int (0 : Int32)))
set_option maxRecDepth 65536 in
set_option maxHeartbeats 40000000 in
theorem rm_of (lL : Launch) (Z : State) (a0 : Array Value) (hw : ∀ d ∈ tables_1, d.before a0 Z = true) (ws : List Jvm.Cond) (p1 : Int32) (h0 : Heap) (n0 : Nat) (Z0 : n0 ≤ h0.size) :
    MetFree lL (⟨"com/example/vestwright/vestwright/YearsMonthsDays", "ofMonths", "(I)Lcom/example/vestwright/vestwright/YearsMonthsDays;"⟩ : MethodName) (head1 (Jvm.Cond.code (⟨"com/example/vestwright/vestwright/YearsMonthsDays", "ofMonths", "(I)Lcom/example/vestwright/vestwright/YearsMonthsDays;"⟩ : MethodName) prog_10_method_4_code 1 (some (.object "com/example/vestwright/vestwright/YearsMonthsDays")) :: ws) ({ frames := 2, cells := 1, slots := 3, locals := 28 } : Room)) (fun aA uU => aA = #[(.int p1)] ∧ Z.Warmed39 uU.vm ∧ uU.heap = h0) (fun _ _ _ _ _ => True) (fun _ uU oO uU' => ∃ vV lA, oO = .returned vV ∧ Q_rm_of Z p1 h0 n0 vV uU'.heap lA ∧ FrameEnd uU oO uU' lA ({ frames := 2, cells := 1, slots := 3, locals := 28 } : Room).cells ({ frames := 2, cells := 1, slots := 3, locals := 28 } : Room).slots) := by
  refine MetFree.of_bodySF (plainFor_of_name own_pn_com_example_vestwright_vestwright_YearsMonthsDays) hisR ?_
  intro pP eE sS mM args below meth cC s₁ Bd hml0 hP hK
  obtain ⟨rfl, hZ, hh⟩ := hP
  have hx := Bd.exec
  have hby := Bd.bytes
  have hml : cC.maxLocals = 1 := hml0
  have hown : sS.vm.findClass "com/example/vestwright/vestwright/YearsMonthsDays" = some mM.cls := findClass_of_methodNamed Bd.named
  have hnm := (name_of_methodNamed Bd.named Bd.method).1
  have X0 : Stand pP lL eE ({ frames := 2, cells := 1, slots := 3, locals := 28 } : Room) sS mM #[(.int p1)] below meth cC s₁ [] 0 0 := Stand.of_body Bd
  have e0 : s₁.heap = h0 := by rw [← hh, Bd.state]; rfl
  have N0 := Fr.nil n0
  have K0 := Keep.refl h0 ([] : List Addr)
  show own_Fin pP eE below (fun tT oO => ∃ vV lA, oO = .returned vV ∧ Q_rm_of Z p1 h0 n0 vV tT.heap lA ∧ FrameEnd sS oO tT lA ({ frames := 2, cells := 1, slots := 3, locals := 28 } : Room).cells ({ frames := 2, cells := 1, slots := 3, locals := 28 } : Room).slots) (s₁.setTop (entryFrame mM #[(.int p1)] 1))
  refine own_fin (b := s₁.setTop (mkF mM 0 #[.val (.int p1)] [])) (fun tT kK => castTop (own_ef_rm_of mM p1) kK) ?_
  obtain ⟨T1_, h1_, X1_, e1_, E1_, A1_, D1_, -, st1_⟩ := newO X0 hx hZ hown (hw _ (List.mem_of_getElem? (i := 4) rfl)) (hw _ (List.mem_of_getElem? (i := 5) rfl)) (hw _ (List.mem_of_getElem? (i := 2) rfl)) e0 (g := (mkF mM 0 #[.val (.int p1)] [])) rfl (Jvm.hb hby own_d1_0) (by decide) (by decide)
  obtain ⟨b1_, g1_⟩ : ∃ z, z = h0.size := ⟨_, rfl⟩
  rw [← g1_] at A1_ D1_ st1_
  have sz_b1_ : h0.size ≤ b1_ := Nat.le_trans K0.1 (Nat.le_of_eq g1_.symm)
  have ge_b1_ : n0 ≤ b1_ := Nat.le_trans Z0 sz_b1_
  have K1_ := K0.ext E1_
  have F1__years : Fld Z h1_ b1_ "com/example/vestwright/vestwright/YearsMonthsDays" "years" "I" (.int (0 : Int32)) := D1_ (Or.inr (hw _ (List.mem_of_getElem? (i := 13) rfl))) (ty := .int) (by decide)
  have F1__months : Fld Z h1_ b1_ "com/example/vestwright/vestwright/YearsMonthsDays" "months" "I" (.int (0 : Int32)) := D1_ (Or.inr (hw _ (List.mem_of_getElem? (i := 15) rfl))) (ty := .int) (by decide)
  have F1__days : Fld Z h1_ b1_ "com/example/vestwright/vestwright/YearsMonthsDays" "days" "I" (.int (0 : Int32)) := D1_ (Or.inr (hw _ (List.mem_of_getElem? (i := 17) rfl))) (ty := .int) (by decide)
  refine own_fin st1_ ?_
  show own_Fin pP eE below _ (T1_.setTop (mkF mM 3 #[.val (.int p1)] [(.ref b1_)]))
  refine own_fin (b := T1_.setTop (mkF mM 13 #[.val (.int p1)] [(.int (0 : Int32)), (.int (p1 % (12 : Int32))), (.int (p1 / (12 : Int32))), (.ref b1_), (.ref b1_)])) (fun tT kK => ?_) ?_
  · show Steps pP.tables eE below (T1_.setTop (mkF mM 3 #[.val (.int p1)] [(.ref b1_)])) tT
    refine XS.dup X1_.here hx rfl (Jvm.hb hby own_d1_3) rfl rfl ?_
    show Steps pP.tables eE below (T1_.setTop (mkF mM 4 #[.val (.int p1)] [(.ref b1_), (.ref b1_)])) tT
    refine XS.iloadN X1_.here hx rfl (Jvm.hb hby own_d1_4) rfl ?_
    show Steps pP.tables eE below (T1_.setTop (mkF mM 5 #[.val (.int p1)] [(.int p1), (.ref b1_), (.ref b1_)])) tT
    refine XS.bipush X1_.here hx rfl (Jvm.hb hby own_d1_5) ?_
    show Steps pP.tables eE below (T1_.setTop (mkF mM 7 #[.val (.int p1)] [(.int (12 : Int32)), (.int p1), (.ref b1_), (.ref b1_)])) tT
    refine XS.idiv X1_.here hx rfl (Jvm.hb hby own_d1_7) rfl (by decide) ?_
    show Steps pP.tables eE below (T1_.setTop (mkF mM 8 #[.val (.int p1)] [(.int (p1 / (12 : Int32))), (.ref b1_), (.ref b1_)])) tT
    refine XS.iloadN X1_.here hx rfl (Jvm.hb hby own_d1_8) rfl ?_
    show Steps pP.tables eE below (T1_.setTop (mkF mM 9 #[.val (.int p1)] [(.int p1), (.int (p1 / (12 : Int32))), (.ref b1_), (.ref b1_)])) tT
    refine XS.bipush X1_.here hx rfl (Jvm.hb hby own_d1_9) ?_
    show Steps pP.tables eE below (T1_.setTop (mkF mM 11 #[.val (.int p1)] [(.int (12 : Int32)), (.int p1), (.int (p1 / (12 : Int32))), (.ref b1_), (.ref b1_)])) tT
    refine iremM X1_ hx rfl (Jvm.hb hby own_d1_11) rfl (by decide) ?_
    show Steps pP.tables eE below (T1_.setTop (mkF mM 12 #[.val (.int p1)] [(.int (p1 % (12 : Int32))), (.int (p1 / (12 : Int32))), (.ref b1_), (.ref b1_)])) tT
    refine XS.iconst X1_.here hx rfl (Jvm.hb hby own_d1_12) ?_
    show Steps pP.tables eE below (T1_.setTop (mkF mM 13 #[.val (.int p1)] [(.int (0 : Int32)), (.int (p1 % (12 : Int32))), (.int (p1 / (12 : Int32))), (.ref b1_), (.ref b1_)])) tT
    exact kK
  obtain ⟨_, _, ⟨T2_, L2_, k2_, n2_⟩, -, X2_, ⟨Lc2_, hQ2_, l2_, y2_, z2_⟩, st2_⟩ := X1_.specialBack hx (y := (⟨"com/example/vestwright/vestwright/YearsMonthsDays", "<init>", "(III)V"⟩ : MethodName)) rfl hown (mvT hZ (hw _ (List.mem_of_getElem? (i := 6) rfl))) (mvT hZ (hw _ (List.mem_of_getElem? (i := 7) rfl))) (mvT hZ (hw _ (List.mem_of_getElem? (i := 8) rfl))) (by decide) (backOf (W := 1) (rm_init lL Z a0 hw [] b1_ (p1 / (12 : Int32)) (p1 % (12 : Int32)) (0 : Int32) h1_ n0 (Nat.le_trans Z0 K1_.1) A1_ F1__years F1__months F1__days ge_b1_) hZ (hw _ (List.mem_of_getElem? (i := 8) rfl)) (hw _ (List.mem_of_getElem? (i := 2) rfl)) (by decide) (by decide)) (g := (mkF mM 13 #[.val (.int p1)] [(.int (0 : Int32)), (.int (p1 % (12 : Int32))), (.int (p1 / (12 : Int32))), (.ref b1_), (.ref b1_)])) rfl (by rw [hml]; rfl) (Steps.refl _) (a := b1_) (argsL := [(.int (p1 / (12 : Int32))), (.int (p1 % (12 : Int32))), (.int (0 : Int32))]) (rest := [(.ref b1_)]) (lenOf own_pd0 rfl) rfl (by show 2 * 0 + _ ≤ _; exact Nat.le_of_eq rfl) (Jvm.hb hby own_d1_13) (fun _ _ => ⟨rfl, e1_, (by decide : 1 + 0 ≤ _), (by decide : 3 + 0 ≤ _)⟩)
  dsimp only [Pt.U, Pt.locs, Pt.cells, Pt.slots] at X2_ l2_ y2_ z2_ st2_ hQ2_
  subst l2_ y2_ z2_
  obtain ⟨rfl, N2_q, p2__0, p2__1, p2__2, p2__3, p2__4⟩ := hQ2_
  have N2_ := Fr.app N0 N2_q
  have fc3_ := A1_.keep p2__0
  have K2_ := K1_.trans p2__0 (allS (Or.inr sz_b1_) all0)
  refine own_fin (fun tT kK => st2_.trans kK) ?_
  show own_Fin pP eE below _ (T2_.setTop (mkF mM 16 #[.val (.int p1)] [(.ref b1_)]))
  obtain ⟨fs, hr, hrun, hended, hW, hsame⟩ := X2_.leave (v := some (.ref b1_)) (fun h => by rw [Bd.returns] at h; cases h)
  refine ⟨_, _, ?_, hrun, hended, _, _, rfl, ?_, ⟨_, rfl⟩, hW, hsame.mono (by decide) (by decide)⟩
  · show Steps pP.tables eE below (T2_.setTop (mkF mM 16 #[.val (.int p1)] [(.ref b1_)])) _
    exact retOut X2_ hx Bd.returns rfl (Or.inr (Or.inr (Or.inr (Or.inr ⟨rfl, rfl, rfl⟩)))) (Jvm.hb hby own_d1_16) hr
  · show Q_rm_of Z p1 h0 n0 _ T2_.heap _
    exact ⟨b1_, rfl, N2_, K2_, sz_b1_, p2__1, p2__2, p2__3, p2__4⟩
theorem own_d4_0 : decode prog_10_method_5_code 0 = .ok (.aload_n 0, 1) := by decide +kernel
theorem own_d4_1 : decode prog_10_method_5_code 1 = .ok (.getfield 7, 3) := by decide +kernel
theorem own_d4_4 : decode prog_10_method_5_code 4 = .ok (.ireturn, 1) := by decide +kernel
theorem own_ef_rm_years (mM : MethodId) (x0 : Addr) : entryFrame mM #[(.ref x0)] 1 = mkF mM 0 #[.val (.ref x0)] [] := by first | (simp [entryFrame, mkF, argsToLocals, Value.category]; done) | rfl
def Q_rm_years (Z : State) (a : Addr) (p1 : Int32) (h0 : Heap) (n0 : Nat) (vV : Option Value) (hH : Heap) (lA : List Loc) : Prop := vV = some (.int p1) ∧ Fr n0 lA ∧ (hH = h0)
set_option maxRecDepth 65536 in
set_option maxHeartbeats 40000000 in
theorem rm_years (lL : Launch) (Z : State) (a0 : Array Value) (hw : ∀ d ∈ tables_1, d.before a0 Z = true) (ws : List Jvm.Cond) (a : Addr) (p1 : Int32) (h0 : Heap) (n0 : Nat) (Z0 : n0 ≤ h0.size) (Fa : Fld Z h0 a "com/example/vestwright/vestwright/YearsMonthsDays" "years" "I" (.int p1)) :
    MetFree lL (⟨"com/example/vestwright/vestwright/YearsMonthsDays", "years", "()I"⟩ : MethodName) (head1 (Jvm.Cond.code (⟨"com/example/vestwright/vestwright/YearsMonthsDays", "years", "()I"⟩ : MethodName) prog_10_method_5_code 1 (some .int) :: ws) ({ frames := 0, cells := 0, slots := 0, locals := 0 } : Room)) (fun aA uU => aA = #[(.ref a)] ∧ Z.Warmed39 uU.vm ∧ uU.heap = h0) (fun _ _ _ _ _ => True) (fun _ uU oO uU' => ∃ vV lA, oO = .returned vV ∧ Q_rm_years Z a p1 h0 n0 vV uU'.heap lA ∧ FrameEnd uU oO uU' lA ({ frames := 0, cells := 0, slots := 0, locals := 0 } : Room).cells ({ frames := 0, cells := 0, slots := 0, locals := 0 } : Room).slots) := by
  refine MetFree.of_bodySF (plainFor_of_name own_pn_com_example_vestwright_vestwright_YearsMonthsDays) hisR ?_
  intro pP eE sS mM args below meth cC s₁ Bd hml0 hP hK
  obtain ⟨rfl, hZ, hh⟩ := hP
  have hx := Bd.exec
  have hby := Bd.bytes
  have hml : cC.maxLocals = 1 := hml0
  have hown : sS.vm.findClass "com/example/vestwright/vestwright/YearsMonthsDays" = some mM.cls := findClass_of_methodNamed Bd.named
  have hnm := (name_of_methodNamed Bd.named Bd.method).1
  have X0 : Stand pP lL eE ({ frames := 0, cells := 0, slots := 0, locals := 0 } : Room) sS mM #[(.ref a)] below meth cC s₁ [] 0 0 := Stand.of_body Bd
  have e0 : s₁.heap = h0 := by rw [← hh, Bd.state]; rfl
  have N0 := Fr.nil n0
  have K0 := Keep.refl h0 ([] : List Addr)
  show own_Fin pP eE below (fun tT oO => ∃ vV lA, oO = .returned vV ∧ Q_rm_years Z a p1 h0 n0 vV tT.heap lA ∧ FrameEnd sS oO tT lA ({ frames := 0, cells := 0, slots := 0, locals := 0 } : Room).cells ({ frames := 0, cells := 0, slots := 0, locals := 0 } : Room).slots) (s₁.setTop (entryFrame mM #[(.ref a)] 1))
  refine own_fin (b := s₁.setTop (mkF mM 0 #[.val (.ref a)] [])) (fun tT kK => castTop (own_ef_rm_years mM a) kK) ?_
  refine own_fin (b := s₁.setTop (mkF mM 1 #[.val (.ref a)] [(.ref a)])) (fun tT kK => ?_) ?_
  · show Steps pP.tables eE below (s₁.setTop (mkF mM 0 #[.val (.ref a)] [])) tT
    refine XS.aloadN X0.here hx rfl (Jvm.hb hby own_d4_0) rfl rfl ?_
    show Steps pP.tables eE below (s₁.setTop (mkF mM 1 #[.val (.ref a)] [(.ref a)])) tT
    exact kK
  obtain ⟨T1_, X1_, e1_, st1_⟩ := getF X0 hx hZ hown (host := "") (Or.inl (hw _ (List.mem_of_getElem? (i := 12) rfl))) Via.refl e0 Fa (g := (mkF mM 1 #[.val (.ref a)] [(.ref a)])) rfl rfl (Jvm.hb hby own_d4_1)
  refine own_fin st1_ ?_
  show own_Fin pP eE below _ (T1_.setTop (mkF mM 4 #[.val (.ref a)] [(.int p1)]))
  obtain ⟨fs, hr, hrun, hended, hW, hsame⟩ := X1_.leave (v := some (.int p1)) (fun h => by rw [Bd.returns] at h; cases h)
  refine ⟨_, _, ?_, hrun, hended, _, _, rfl, ?_, ⟨_, rfl⟩, hW, hsame.mono (by decide) (by decide)⟩
  · show Steps pP.tables eE below (T1_.setTop (mkF mM 4 #[.val (.ref a)] [(.int p1)])) _
    exact retOut X1_ hx Bd.returns rfl (Or.inl ⟨rfl, Or.inl rfl, _, rfl⟩) (Jvm.hb hby own_d4_4) hr
  · show Q_rm_years Z a p1 h0 n0 _ T1_.heap _
    rw [e1_]
    exact ⟨rfl, N0, rfl⟩
theorem own_d5_0 : decode prog_10_method_6_code 0 = .ok (.aload_n 0, 1) := by decide +kernel
theorem own_d5_1 : decode prog_10_method_6_code 1 = .ok (.getfield 13, 3) := by decide +kernel
theorem own_d5_4 : decode prog_10_method_6_code 4 = .ok (.ireturn, 1) := by decide +kernel
theorem own_ef_rm_months (mM : MethodId) (x0 : Addr) : entryFrame mM #[(.ref x0)] 1 = mkF mM 0 #[.val (.ref x0)] [] := by first | (simp [entryFrame, mkF, argsToLocals, Value.category]; done) | rfl
def Q_rm_months (Z : State) (a : Addr) (p1 : Int32) (h0 : Heap) (n0 : Nat) (vV : Option Value) (hH : Heap) (lA : List Loc) : Prop := vV = some (.int p1) ∧ Fr n0 lA ∧ (hH = h0)
set_option maxRecDepth 65536 in
set_option maxHeartbeats 40000000 in
theorem rm_months (lL : Launch) (Z : State) (a0 : Array Value) (hw : ∀ d ∈ tables_1, d.before a0 Z = true) (ws : List Jvm.Cond) (a : Addr) (p1 : Int32) (h0 : Heap) (n0 : Nat) (Z0 : n0 ≤ h0.size) (Fa : Fld Z h0 a "com/example/vestwright/vestwright/YearsMonthsDays" "months" "I" (.int p1)) :
    MetFree lL (⟨"com/example/vestwright/vestwright/YearsMonthsDays", "months", "()I"⟩ : MethodName) (head1 (Jvm.Cond.code (⟨"com/example/vestwright/vestwright/YearsMonthsDays", "months", "()I"⟩ : MethodName) prog_10_method_6_code 1 (some .int) :: ws) ({ frames := 0, cells := 0, slots := 0, locals := 0 } : Room)) (fun aA uU => aA = #[(.ref a)] ∧ Z.Warmed39 uU.vm ∧ uU.heap = h0) (fun _ _ _ _ _ => True) (fun _ uU oO uU' => ∃ vV lA, oO = .returned vV ∧ Q_rm_months Z a p1 h0 n0 vV uU'.heap lA ∧ FrameEnd uU oO uU' lA ({ frames := 0, cells := 0, slots := 0, locals := 0 } : Room).cells ({ frames := 0, cells := 0, slots := 0, locals := 0 } : Room).slots) := by
  refine MetFree.of_bodySF (plainFor_of_name own_pn_com_example_vestwright_vestwright_YearsMonthsDays) hisR ?_
  intro pP eE sS mM args below meth cC s₁ Bd hml0 hP hK
  obtain ⟨rfl, hZ, hh⟩ := hP
  have hx := Bd.exec
  have hby := Bd.bytes
  have hml : cC.maxLocals = 1 := hml0
  have hown : sS.vm.findClass "com/example/vestwright/vestwright/YearsMonthsDays" = some mM.cls := findClass_of_methodNamed Bd.named
  have hnm := (name_of_methodNamed Bd.named Bd.method).1
  have X0 : Stand pP lL eE ({ frames := 0, cells := 0, slots := 0, locals := 0 } : Room) sS mM #[(.ref a)] below meth cC s₁ [] 0 0 := Stand.of_body Bd
  have e0 : s₁.heap = h0 := by rw [← hh, Bd.state]; rfl
  have N0 := Fr.nil n0
  have K0 := Keep.refl h0 ([] : List Addr)
  show own_Fin pP eE below (fun tT oO => ∃ vV lA, oO = .returned vV ∧ Q_rm_months Z a p1 h0 n0 vV tT.heap lA ∧ FrameEnd sS oO tT lA ({ frames := 0, cells := 0, slots := 0, locals := 0 } : Room).cells ({ frames := 0, cells := 0, slots := 0, locals := 0 } : Room).slots) (s₁.setTop (entryFrame mM #[(.ref a)] 1))
  refine own_fin (b := s₁.setTop (mkF mM 0 #[.val (.ref a)] [])) (fun tT kK => castTop (own_ef_rm_months mM a) kK) ?_
  refine own_fin (b := s₁.setTop (mkF mM 1 #[.val (.ref a)] [(.ref a)])) (fun tT kK => ?_) ?_
  · show Steps pP.tables eE below (s₁.setTop (mkF mM 0 #[.val (.ref a)] [])) tT
    refine XS.aloadN X0.here hx rfl (Jvm.hb hby own_d5_0) rfl rfl ?_
    show Steps pP.tables eE below (s₁.setTop (mkF mM 1 #[.val (.ref a)] [(.ref a)])) tT
    exact kK
  obtain ⟨T1_, X1_, e1_, st1_⟩ := getF X0 hx hZ hown (host := "") (Or.inl (hw _ (List.mem_of_getElem? (i := 14) rfl))) Via.refl e0 Fa (g := (mkF mM 1 #[.val (.ref a)] [(.ref a)])) rfl rfl (Jvm.hb hby own_d5_1)
  refine own_fin st1_ ?_
  show own_Fin pP eE below _ (T1_.setTop (mkF mM 4 #[.val (.ref a)] [(.int p1)]))
  obtain ⟨fs, hr, hrun, hended, hW, hsame⟩ := X1_.leave (v := some (.int p1)) (fun h => by rw [Bd.returns] at h; cases h)
  refine ⟨_, _, ?_, hrun, hended, _, _, rfl, ?_, ⟨_, rfl⟩, hW, hsame.mono (by decide) (by decide)⟩
  · show Steps pP.tables eE below (T1_.setTop (mkF mM 4 #[.val (.ref a)] [(.int p1)])) _
    exact retOut X1_ hx Bd.returns rfl (Or.inl ⟨rfl, Or.inl rfl, _, rfl⟩) (Jvm.hb hby own_d5_4) hr
  · show Q_rm_months Z a p1 h0 n0 _ T1_.heap _
    rw [e1_]
    exact ⟨rfl, N0, rfl⟩
theorem own_d6_0 : decode prog_10_method_7_code 0 = .ok (.aload_n 0, 1) := by decide +kernel
theorem own_d6_1 : decode prog_10_method_7_code 1 = .ok (.getfield 16, 3) := by decide +kernel
theorem own_d6_4 : decode prog_10_method_7_code 4 = .ok (.ireturn, 1) := by decide +kernel
theorem own_ef_rm_days (mM : MethodId) (x0 : Addr) : entryFrame mM #[(.ref x0)] 1 = mkF mM 0 #[.val (.ref x0)] [] := by first | (simp [entryFrame, mkF, argsToLocals, Value.category]; done) | rfl
def Q_rm_days (Z : State) (a : Addr) (p1 : Int32) (h0 : Heap) (n0 : Nat) (vV : Option Value) (hH : Heap) (lA : List Loc) : Prop := vV = some (.int p1) ∧ Fr n0 lA ∧ (hH = h0)
set_option maxRecDepth 65536 in
set_option maxHeartbeats 40000000 in
theorem rm_days (lL : Launch) (Z : State) (a0 : Array Value) (hw : ∀ d ∈ tables_1, d.before a0 Z = true) (ws : List Jvm.Cond) (a : Addr) (p1 : Int32) (h0 : Heap) (n0 : Nat) (Z0 : n0 ≤ h0.size) (Fa : Fld Z h0 a "com/example/vestwright/vestwright/YearsMonthsDays" "days" "I" (.int p1)) :
    MetFree lL (⟨"com/example/vestwright/vestwright/YearsMonthsDays", "days", "()I"⟩ : MethodName) (head1 (Jvm.Cond.code (⟨"com/example/vestwright/vestwright/YearsMonthsDays", "days", "()I"⟩ : MethodName) prog_10_method_7_code 1 (some .int) :: ws) ({ frames := 0, cells := 0, slots := 0, locals := 0 } : Room)) (fun aA uU => aA = #[(.ref a)] ∧ Z.Warmed39 uU.vm ∧ uU.heap = h0) (fun _ _ _ _ _ => True) (fun _ uU oO uU' => ∃ vV lA, oO = .returned vV ∧ Q_rm_days Z a p1 h0 n0 vV uU'.heap lA ∧ FrameEnd uU oO uU' lA ({ frames := 0, cells := 0, slots := 0, locals := 0 } : Room).cells ({ frames := 0, cells := 0, slots := 0, locals := 0 } : Room).slots) := by
  refine MetFree.of_bodySF (plainFor_of_name own_pn_com_example_vestwright_vestwright_YearsMonthsDays) hisR ?_
  intro pP eE sS mM args below meth cC s₁ Bd hml0 hP hK
  obtain ⟨rfl, hZ, hh⟩ := hP
  have hx := Bd.exec
  have hby := Bd.bytes
  have hml : cC.maxLocals = 1 := hml0
  have hown : sS.vm.findClass "com/example/vestwright/vestwright/YearsMonthsDays" = some mM.cls := findClass_of_methodNamed Bd.named
  have hnm := (name_of_methodNamed Bd.named Bd.method).1
  have X0 : Stand pP lL eE ({ frames := 0, cells := 0, slots := 0, locals := 0 } : Room) sS mM #[(.ref a)] below meth cC s₁ [] 0 0 := Stand.of_body Bd
  have e0 : s₁.heap = h0 := by rw [← hh, Bd.state]; rfl
  have N0 := Fr.nil n0
  have K0 := Keep.refl h0 ([] : List Addr)
  show own_Fin pP eE below (fun tT oO => ∃ vV lA, oO = .returned vV ∧ Q_rm_days Z a p1 h0 n0 vV tT.heap lA ∧ FrameEnd sS oO tT lA ({ frames := 0, cells := 0, slots := 0, locals := 0 } : Room).cells ({ frames := 0, cells := 0, slots := 0, locals := 0 } : Room).slots) (s₁.setTop (entryFrame mM #[(.ref a)] 1))
  refine own_fin (b := s₁.setTop (mkF mM 0 #[.val (.ref a)] [])) (fun tT kK => castTop (own_ef_rm_days mM a) kK) ?_
  refine own_fin (b := s₁.setTop (mkF mM 1 #[.val (.ref a)] [(.ref a)])) (fun tT kK => ?_) ?_
  · show Steps pP.tables eE below (s₁.setTop (mkF mM 0 #[.val (.ref a)] [])) tT
    refine XS.aloadN X0.here hx rfl (Jvm.hb hby own_d6_0) rfl rfl ?_
    show Steps pP.tables eE below (s₁.setTop (mkF mM 1 #[.val (.ref a)] [(.ref a)])) tT
    exact kK
  obtain ⟨T1_, X1_, e1_, st1_⟩ := getF X0 hx hZ hown (host := "") (Or.inl (hw _ (List.mem_of_getElem? (i := 16) rfl))) Via.refl e0 Fa (g := (mkF mM 1 #[.val (.ref a)] [(.ref a)])) rfl rfl (Jvm.hb hby own_d6_1)
  refine own_fin st1_ ?_
  show own_Fin pP eE below _ (T1_.setTop (mkF mM 4 #[.val (.ref a)] [(.int p1)]))
  obtain ⟨fs, hr, hrun, hended, hW, hsame⟩ := X1_.leave (v := some (.int p1)) (fun h => by rw [Bd.returns] at h; cases h)
  refine ⟨_, _, ?_, hrun, hended, _, _, rfl, ?_, ⟨_, rfl⟩, hW, hsame.mono (by decide) (by decide)⟩
  · show Steps pP.tables eE below (T1_.setTop (mkF mM 4 #[.val (.ref a)] [(.int p1)])) _
    exact retOut X1_ hx Bd.returns rfl (Or.inl ⟨rfl, Or.inl rfl, _, rfl⟩) (Jvm.hb hby own_d6_4) hr
  · show Q_rm_days Z a p1 h0 n0 _ T1_.heap _
    rw [e1_]
    exact ⟨rfl, N0, rfl⟩
theorem own_pd1 : parseMethodDescriptor "(I)Lcom/example/vestwright/vestwright/YearsMonthsDays;" = some ⟨[.int], some (.object "com/example/vestwright/vestwright/YearsMonthsDays")⟩ := by decide +kernel
theorem own_pd2 : parseMethodDescriptor "()I" = some ⟨[], some .int⟩ := by decide +kernel
theorem own_pn_com_example_vestwright_vestwright_YearsMonthsDaysOfMonthsPinLaw : plainName "com/example/vestwright/vestwright/YearsMonthsDaysOfMonthsPinLaw" = true := by first | (simp [plainName, overriddenIn]; done) | decide +kernel
theorem own_ef_rm0 (mM : MethodId) (x0 : Int32) : entryFrame mM #[(.int x0)] maxLocals = mkF mM 0 #[.val (.int x0), .unset, .unset, .unset, .unset, .unset, .unset, .unset] [] := by first | (simp [entryFrame, mkF, argsToLocals, Value.category, maxLocals]; done) | rfl
def Q_rm0 (Z : State) (p1 : Int32) (h0 : Heap) (n0 : Nat) (vV : Option Value) (hH : Heap) (lA : List Loc) : Prop := vV = some (.int (1 : Int32)) ∧ Fr n0 lA
set_option maxRecDepth 65536 in
set_option maxHeartbeats 40000000 in
theorem rm0 (lL : Launch) (Z : State) (a0 : Array Value) (hw : ∀ d ∈ tables_1, d.before a0 Z = true) (ws : List Jvm.Cond) (p1 : Int32) (h0 : Heap) (n0 : Nat) (Z0 : n0 ≤ h0.size) :
    MetFree lL x (head1 (Jvm.Cond.code x code maxLocals ret :: ws) room_1) (fun aA uU => aA = #[(.int p1)] ∧ Z.Warmed39 uU.vm ∧ uU.heap = h0) (fun _ _ _ _ _ => True) (fun _ uU oO uU' => ∃ vV lA, oO = .returned vV ∧ Q_rm0 Z p1 h0 n0 vV uU'.heap lA ∧ FrameEnd uU oO uU' lA room_1.cells room_1.slots) := by
  refine MetFree.of_bodySF (plainFor_of_name own_pn_com_example_vestwright_vestwright_YearsMonthsDaysOfMonthsPinLaw) hisR ?_
  intro pP eE sS mM args below meth cC s₁ Bd hml0 hP hK
  obtain ⟨rfl, hZ, hh⟩ := hP
  have hx := Bd.exec
  have hby := Bd.bytes
  have hml : cC.maxLocals = 8 := hml0
  have hown : sS.vm.findClass "com/example/vestwright/vestwright/YearsMonthsDaysOfMonthsPinLaw" = some mM.cls := findClass_of_methodNamed Bd.named
  have hnm := (name_of_methodNamed Bd.named Bd.method).1
  have X0 : Stand pP lL eE room_1 sS mM #[(.int p1)] below meth cC s₁ [] 0 0 := Stand.of_body Bd
  have e0 : s₁.heap = h0 := by rw [← hh, Bd.state]; rfl
  have N0 := Fr.nil n0
  have K0 := Keep.refl h0 ([] : List Addr)
  show own_Fin pP eE below (fun tT oO => ∃ vV lA, oO = .returned vV ∧ Q_rm0 Z p1 h0 n0 vV tT.heap lA ∧ FrameEnd sS oO tT lA room_1.cells room_1.slots) (s₁.setTop (entryFrame mM #[(.int p1)] maxLocals))
  refine own_fin (b := s₁.setTop (mkF mM 0 #[.val (.int p1), .unset, .unset, .unset, .unset, .unset, .unset, .unset] [])) (fun tT kK => castTop (own_ef_rm0 mM p1) kK) ?_
  refine own_fin (b := s₁.setTop (mkF mM 1 #[.val (.int p1), .unset, .unset, .unset, .unset, .unset, .unset, .unset] [(.int p1)])) (fun tT kK => ?_) ?_
  · show Steps pP.tables eE below (s₁.setTop (mkF mM 0 #[.val (.int p1), .unset, .unset, .unset, .unset, .unset, .unset, .unset] [])) tT
    refine XS.iloadN X0.here hx rfl (Jvm.hb hby at_0) rfl ?_
    show Steps pP.tables eE below (s₁.setTop (mkF mM 1 #[.val (.int p1), .unset, .unset, .unset, .unset, .unset, .unset, .unset] [(.int p1)])) tT
    exact kK
  obtain ⟨_, _, ⟨T1_, L1_, k1_, n1_⟩, -, X1_, ⟨Lc1_, hQ1_, l1_, y1_, z1_⟩, st1_⟩ := Jvm.LawKit.callS X0 hx (y := (⟨"com/example/vestwright/vestwright/YearsMonthsDays", "ofMonths", "(I)Lcom/example/vestwright/vestwright/YearsMonthsDays;"⟩ : MethodName)) hown (mvT hZ (hw _ (List.mem_of_getElem? (i := 0) rfl))) (mvT hZ (hw _ (List.mem_of_getElem? (i := 1) rfl))) (mvT hZ (hw _ (List.mem_of_getElem? (i := 2) rfl))) (mvT hZ (hw _ (List.mem_of_getElem? (i := 3) rfl))) (by decide) (backOf (W := 0) (rm_of lL Z a0 hw [] p1 h0 n0 (Nat.le_trans Z0 K0.1) ) hZ (hw _ (List.mem_of_getElem? (i := 3) rfl)) (hw _ (List.mem_of_getElem? (i := 2) rfl)) (by decide) (by decide)) (g := (mkF mM 1 #[.val (.int p1), .unset, .unset, .unset, .unset, .unset, .unset, .unset] [(.int p1)])) rfl (by rw [hml]; rfl) (argsL := [(.int p1)]) (rest := []) (lenOf own_pd1 rfl) rfl (by show 2 * 0 + _ ≤ _; exact Nat.le_of_eq rfl) (Jvm.hb hby at_1) (fun _ _ => ⟨rfl, e0, (by decide : 0 + 1 ≤ _), (by decide : 0 + 3 ≤ _)⟩)
  dsimp only [Pt.U, Pt.locs, Pt.cells, Pt.slots] at X1_ l1_ y1_ z1_ st1_ hQ1_
  subst l1_ y1_ z1_
  obtain ⟨b_1_, rfl, N1_q, p1__0, p1__1, p1__2, p1__3, p1__4, p1__5⟩ := hQ1_
  have N1_ := Fr.app N0 N1_q
  have sz_b_1_ : h0.size ≤ b_1_ := Nat.le_trans K0.1 p1__1
  have ge_b_1_ : n0 ≤ b_1_ := Nat.le_trans Z0 sz_b_1_
  have K1_ := K0.trans p1__0 all0
  refine own_fin (fun tT kK => st1_ tT kK) ?_
  show own_Fin pP eE below _ (T1_.setTop (mkF mM 4 #[.val (.int p1), .unset, .unset, .unset, .unset, .unset, .unset, .unset] [(.ref b_1_)]))
  refine own_fin (b := T1_.setTop (mkF mM 6 #[.val (.int p1), .val (.ref b_1_), .unset, .unset, .unset, .unset, .unset, .unset] [(.ref b_1_)])) (fun tT kK => ?_) ?_
  · show Steps pP.tables eE below (T1_.setTop (mkF mM 4 #[.val (.int p1), .unset, .unset, .unset, .unset, .unset, .unset, .unset] [(.ref b_1_)])) tT
    refine XS.astoreN X1_.here hx rfl (Jvm.hb hby at_4) rfl rfl (l' := #[.val (.int p1), .val (.ref b_1_), .unset, .unset, .unset, .unset, .unset, .unset]) rfl ?_
    show Steps pP.tables eE below (T1_.setTop (mkF mM 5 #[.val (.int p1), .val (.ref b_1_), .unset, .unset, .unset, .unset, .unset, .unset] [])) tT
    refine XS.aloadN X1_.here hx rfl (Jvm.hb hby at_5) rfl rfl ?_
    show Steps pP.tables eE below (T1_.setTop (mkF mM 6 #[.val (.int p1), .val (.ref b_1_), .unset, .unset, .unset, .unset, .unset, .unset] [(.ref b_1_)])) tT
    exact kK
  obtain ⟨cq2_, kq2_, q2_a, q2_b, q2_c⟩ := isOf hZ rfl p1__2
  obtain ⟨_, _, ⟨T2_, L2_, k2_, n2_⟩, -, X2_, ⟨Lc2_, hQ2_, l2_, y2_, z2_⟩, st2_⟩ := X1_.virtualBack hx (y := (⟨"com/example/vestwright/vestwright/YearsMonthsDays", "years", "()I"⟩ : MethodName)) (z := (⟨"com/example/vestwright/vestwright/YearsMonthsDays", "years", "()I"⟩ : MethodName)) hown (mvT hZ (hw _ (List.mem_of_getElem? (i := 18) rfl))) (mvT hZ (hw _ (List.mem_of_getElem? (i := 19) rfl))) (notFace_of_selects (args := #[]) (mvT hZ (hw _ (List.mem_of_getElem? (i := 21) rfl)))) (mvT hZ (hw _ (List.mem_of_getElem? (i := 21) rfl))) (mvT hZ (hw _ (List.mem_of_getElem? (i := 20) rfl))) (by decide) (backOf (W := 0) (rm_years lL Z a0 hw [] b_1_ (p1 / (12 : Int32)) T1_.heap n0 (Nat.le_trans Z0 K1_.1) p1__3) hZ (hw _ (List.mem_of_getElem? (i := 22) rfl)) (hw _ (List.mem_of_getElem? (i := 2) rfl)) (by decide) (by decide)) q2_a q2_c (g := (mkF mM 6 #[.val (.int p1), .val (.ref b_1_), .unset, .unset, .unset, .unset, .unset, .unset] [(.ref b_1_)])) rfl (by rw [hml]; rfl) (Steps.refl _) (argsL := []) (rest := []) (lenOf own_pd2 rfl) rfl (by show 2 * 0 + _ ≤ _; exact Nat.le_of_eq rfl) (Jvm.hb hby at_6) (fun _ _ => ⟨rfl, rfl, (by decide : 1 + 0 ≤ _), (by decide : 3 + 0 ≤ _)⟩)
  dsimp only [Pt.U, Pt.locs, Pt.cells, Pt.slots] at X2_ l2_ y2_ z2_ st2_ hQ2_
  subst l2_ y2_ z2_
  obtain ⟨rfl, N2_q, p2__0⟩ := hQ2_
  have N2_ := Fr.app N1_ N2_q
  refine own_fin (fun tT kK => st2_.trans kK) ?_
  show own_Fin pP eE below _ (T2_.setTop (mkF mM 9 #[.val (.int p1), .val (.ref b_1_), .unset, .unset, .unset, .unset, .unset, .unset] [(.int (p1 / (12 : Int32)))]))
  refine own_fin (b := T2_.setTop (mkF mM 11 #[.val (.int p1), .val (.ref b_1_), .val (.int (p1 / (12 : Int32))), .unset, .unset, .unset, .unset, .unset] [(.ref b_1_)])) (fun tT kK => ?_) ?_
  · show Steps pP.tables eE below (T2_.setTop (mkF mM 9 #[.val (.int p1), .val (.ref b_1_), .unset, .unset, .unset, .unset, .unset, .unset] [(.int (p1 / (12 : Int32)))])) tT
    refine XS.istoreN X2_.here hx rfl (Jvm.hb hby at_9) rfl (l' := #[.val (.int p1), .val (.ref b_1_), .val (.int (p1 / (12 : Int32))), .unset, .unset, .unset, .unset, .unset]) rfl ?_
    show Steps pP.tables eE below (T2_.setTop (mkF mM 10 #[.val (.int p1), .val (.ref b_1_), .val (.int (p1 / (12 : Int32))), .unset, .unset, .unset, .unset, .unset] [])) tT
    refine XS.aloadN X2_.here hx rfl (Jvm.hb hby at_10) rfl rfl ?_
    show Steps pP.tables eE below (T2_.setTop (mkF mM 11 #[.val (.int p1), .val (.ref b_1_), .val (.int (p1 / (12 : Int32))), .unset, .unset, .unset, .unset, .unset] [(.ref b_1_)])) tT
    exact kK
  obtain ⟨cq3_, kq3_, q3_a, q3_b, q3_c⟩ := isOf hZ p2__0 p1__2
  obtain ⟨_, _, ⟨T3_, L3_, k3_, n3_⟩, -, X3_, ⟨Lc3_, hQ3_, l3_, y3_, z3_⟩, st3_⟩ := X2_.virtualBack hx (y := (⟨"com/example/vestwright/vestwright/YearsMonthsDays", "months", "()I"⟩ : MethodName)) (z := (⟨"com/example/vestwright/vestwright/YearsMonthsDays", "months", "()I"⟩ : MethodName)) hown (mvT hZ (hw _ (List.mem_of_getElem? (i := 23) rfl))) (mvT hZ (hw _ (List.mem_of_getElem? (i := 24) rfl))) (notFace_of_selects (args := #[]) (mvT hZ (hw _ (List.mem_of_getElem? (i := 26) rfl)))) (mvT hZ (hw _ (List.mem_of_getElem? (i := 26) rfl))) (mvT hZ (hw _ (List.mem_of_getElem? (i := 25) rfl))) (by decide) (backOf (W := 0) (rm_months lL Z a0 hw [] b_1_ (p1 % (12 : Int32)) T1_.heap n0 (Nat.le_trans Z0 K1_.1) p1__4) hZ (hw _ (List.mem_of_getElem? (i := 27) rfl)) (hw _ (List.mem_of_getElem? (i := 2) rfl)) (by decide) (by decide)) q3_a q3_c (g := (mkF mM 11 #[.val (.int p1), .val (.ref b_1_), .val (.int (p1 / (12 : Int32))), .unset, .unset, .unset, .unset, .unset] [(.ref b_1_)])) rfl (by rw [hml]; rfl) (Steps.refl _) (argsL := []) (rest := []) (lenOf own_pd2 rfl) rfl (by show 2 * 0 + _ ≤ _; exact Nat.le_of_eq rfl) (Jvm.hb hby at_11) (fun _ _ => ⟨rfl, p2__0, (by decide : 1 + 0 ≤ _), (by decide : 3 + 0 ≤ _)⟩)
  dsimp only [Pt.U, Pt.locs, Pt.cells, Pt.slots] at X3_ l3_ y3_ z3_ st3_ hQ3_
  subst l3_ y3_ z3_
  obtain ⟨rfl, N3_q, p3__0⟩ := hQ3_
  have N3_ := Fr.app N2_ N3_q
  refine own_fin (fun tT kK => st3_.trans kK) ?_
  show own_Fin pP eE below _ (T3_.setTop (mkF mM 14 #[.val (.int p1), .val (.ref b_1_), .val (.int (p1 / (12 : Int32))), .unset, .unset, .unset, .unset, .unset] [(.int (p1 % (12 : Int32)))]))
  refine own_fin (b := T3_.setTop (mkF mM 16 #[.val (.int p1), .val (.ref b_1_), .val (.int (p1 / (12 : Int32))), .val (.int (p1 % (12 : Int32))), .unset, .unset, .unset, .unset] [(.ref b_1_)])) (fun tT kK => ?_) ?_
  · show Steps pP.tables eE below (T3_.setTop (mkF mM 14 #[.val (.int p1), .val (.ref b_1_), .val (.int (p1 / (12 : Int32))), .unset, .unset, .unset, .unset, .unset] [(.int (p1 % (12 : Int32)))])) tT
    refine XS.istoreN X3_.here hx rfl (Jvm.hb hby at_14) rfl (l' := #[.val (.int p1), .val (.ref b_1_), .val (.int (p1 / (12 : Int32))), .val (.int (p1 % (12 : Int32))), .unset, .unset, .unset, .unset]) rfl ?_
    show Steps pP.tables eE below (T3_.setTop (mkF mM 15 #[.val (.int p1), .val (.ref b_1_), .val (.int (p1 / (12 : Int32))), .val (.int (p1 % (12 : Int32))), .unset, .unset, .unset, .unset] [])) tT
    refine XS.aloadN X3_.here hx rfl (Jvm.hb hby at_15) rfl rfl ?_
    show Steps pP.tables eE below (T3_.setTop (mkF mM 16 #[.val (.int p1), .val (.ref b_1_), .val (.int (p1 / (12 : Int32))), .val (.int (p1 % (12 : Int32))), .unset, .unset, .unset, .unset] [(.ref b_1_)])) tT
    exact kK
  obtain ⟨cq4_, kq4_, q4_a, q4_b, q4_c⟩ := isOf hZ p3__0 p1__2
  obtain ⟨_, _, ⟨T4_, L4_, k4_, n4_⟩, -, X4_, ⟨Lc4_, hQ4_, l4_, y4_, z4_⟩, st4_⟩ := X3_.virtualBack hx (y := (⟨"com/example/vestwright/vestwright/YearsMonthsDays", "days", "()I"⟩ : MethodName)) (z := (⟨"com/example/vestwright/vestwright/YearsMonthsDays", "days", "()I"⟩ : MethodName)) hown (mvT hZ (hw _ (List.mem_of_getElem? (i := 28) rfl))) (mvT hZ (hw _ (List.mem_of_getElem? (i := 29) rfl))) (notFace_of_selects (args := #[]) (mvT hZ (hw _ (List.mem_of_getElem? (i := 31) rfl)))) (mvT hZ (hw _ (List.mem_of_getElem? (i := 31) rfl))) (mvT hZ (hw _ (List.mem_of_getElem? (i := 30) rfl))) (by decide) (backOf (W := 0) (rm_days lL Z a0 hw [] b_1_ (0 : Int32) T1_.heap n0 (Nat.le_trans Z0 K1_.1) p1__5) hZ (hw _ (List.mem_of_getElem? (i := 32) rfl)) (hw _ (List.mem_of_getElem? (i := 2) rfl)) (by decide) (by decide)) q4_a q4_c (g := (mkF mM 16 #[.val (.int p1), .val (.ref b_1_), .val (.int (p1 / (12 : Int32))), .val (.int (p1 % (12 : Int32))), .unset, .unset, .unset, .unset] [(.ref b_1_)])) rfl (by rw [hml]; rfl) (Steps.refl _) (argsL := []) (rest := []) (lenOf own_pd2 rfl) rfl (by show 2 * 0 + _ ≤ _; exact Nat.le_of_eq rfl) (Jvm.hb hby at_16) (fun _ _ => ⟨rfl, p3__0, (by decide : 1 + 0 ≤ _), (by decide : 3 + 0 ≤ _)⟩)
  dsimp only [Pt.U, Pt.locs, Pt.cells, Pt.slots] at X4_ l4_ y4_ z4_ st4_ hQ4_
  subst l4_ y4_ z4_
  obtain ⟨rfl, N4_q, p4__0⟩ := hQ4_
  have N4_ := Fr.app N3_ N4_q
  refine own_fin (fun tT kK => st4_.trans kK) ?_
  show own_Fin pP eE below _ (T4_.setTop (mkF mM 19 #[.val (.int p1), .val (.ref b_1_), .val (.int (p1 / (12 : Int32))), .val (.int (p1 % (12 : Int32))), .unset, .unset, .unset, .unset] [(.int (0 : Int32))]))
  refine own_fin (b := T4_.setTop (mkF mM 22 #[.val (.int p1), .val (.ref b_1_), .val (.int (p1 / (12 : Int32))), .val (.int (p1 % (12 : Int32))), .val (.int (0 : Int32)), .unset, .unset, .unset] [(.int p1)])) (fun tT kK => ?_) ?_
  · show Steps pP.tables eE below (T4_.setTop (mkF mM 19 #[.val (.int p1), .val (.ref b_1_), .val (.int (p1 / (12 : Int32))), .val (.int (p1 % (12 : Int32))), .unset, .unset, .unset, .unset] [(.int (0 : Int32))])) tT
    refine XS.istore X4_.here hx rfl (Jvm.hb hby at_19) rfl (l' := #[.val (.int p1), .val (.ref b_1_), .val (.int (p1 / (12 : Int32))), .val (.int (p1 % (12 : Int32))), .val (.int (0 : Int32)), .unset, .unset, .unset]) rfl ?_
    show Steps pP.tables eE below (T4_.setTop (mkF mM 21 #[.val (.int p1), .val (.ref b_1_), .val (.int (p1 / (12 : Int32))), .val (.int (p1 % (12 : Int32))), .val (.int (0 : Int32)), .unset, .unset, .unset] [])) tT
    refine XS.iloadN X4_.here hx rfl (Jvm.hb hby at_21) rfl ?_
    show Steps pP.tables eE below (T4_.setTop (mkF mM 22 #[.val (.int p1), .val (.ref b_1_), .val (.int (p1 / (12 : Int32))), .val (.int (p1 % (12 : Int32))), .val (.int (0 : Int32)), .unset, .unset, .unset] [(.int p1)])) tT
    exact kK
  by_cases hc22_5_ : p1 < (0 : Int32)
  · refine own_fin (b := T4_.setTop (mkF mM 96 #[.val (.int p1), .val (.ref b_1_), .val (.int (p1 / (12 : Int32))), .val (.int (p1 % (12 : Int32))), .val (.int (0 : Int32)), .val (.int (1 : Int32)), .val (.long ((((p1 / (12 : Int32)).toInt64) * (12 : Int64)) + ((p1 % (12 : Int32)).toInt64))), .second] [(.int (1 : Int32))])) (fun tT kK => ?_) ?_
    · show Steps pP.tables eE below (T4_.setTop (mkF mM 22 #[.val (.int p1), .val (.ref b_1_), .val (.int (p1 / (12 : Int32))), .val (.int (p1 % (12 : Int32))), .val (.int (0 : Int32)), .unset, .unset, .unset] [(.int p1)])) tT
      refine XS.ifYes X4_.here hx rfl (pc0 := 22) (pc' := 45) rfl (Jvm.hb hby at_22) rfl ((if0 _ _).trans (tlt (hc22_5_ : p1 < (0 : Int32))).1) (by decide) (by decide) ?_
      show Steps pP.tables eE below (T4_.setTop (mkF mM 45 #[.val (.int p1), .val (.ref b_1_), .val (.int (p1 / (12 : Int32))), .val (.int (p1 % (12 : Int32))), .val (.int (0 : Int32)), .unset, .unset, .unset] [])) tT
      refine XS.iloadN X4_.here hx rfl (Jvm.hb hby at_45) rfl ?_
      show Steps pP.tables eE below (T4_.setTop (mkF mM 46 #[.val (.int p1), .val (.ref b_1_), .val (.int (p1 / (12 : Int32))), .val (.int (p1 % (12 : Int32))), .val (.int (0 : Int32)), .unset, .unset, .unset] [(.int (p1 % (12 : Int32)))])) tT
      refine XS.ifNo X4_.here hx rfl (Jvm.hb hby at_46) rfl ((if0 _ _).trans (flt (own_b1 hc22_5_ : ¬ ((0 : Int32) < (p1 % (12 : Int32))))).2.2.1) ?_
      show Steps pP.tables eE below (T4_.setTop (mkF mM 49 #[.val (.int p1), .val (.ref b_1_), .val (.int (p1 / (12 : Int32))), .val (.int (p1 % (12 : Int32))), .val (.int (0 : Int32)), .unset, .unset, .unset] [])) tT
      refine XS.iloadN X4_.here hx rfl (Jvm.hb hby at_49) rfl ?_
      show Steps pP.tables eE below (T4_.setTop (mkF mM 50 #[.val (.int p1), .val (.ref b_1_), .val (.int (p1 / (12 : Int32))), .val (.int (p1 % (12 : Int32))), .val (.int (0 : Int32)), .unset, .unset, .unset] [(.int (p1 % (12 : Int32)))])) tT
      refine XS.bipush X4_.here hx rfl (Jvm.hb hby at_50) ?_
      show Steps pP.tables eE below (T4_.setTop (mkF mM 52 #[.val (.int p1), .val (.ref b_1_), .val (.int (p1 / (12 : Int32))), .val (.int (p1 % (12 : Int32))), .val (.int (0 : Int32)), .unset, .unset, .unset] [(.int (-12 : Int32)), (.int (p1 % (12 : Int32)))])) tT
      refine XS.icmpNo X4_.here hx rfl (Jvm.hb hby at_52) rfl (tlt (own_b2 hc22_5_ : (-12 : Int32) < (p1 % (12 : Int32)))).2.2.2 ?_
      show Steps pP.tables eE below (T4_.setTop (mkF mM 55 #[.val (.int p1), .val (.ref b_1_), .val (.int (p1 / (12 : Int32))), .val (.int (p1 % (12 : Int32))), .val (.int (0 : Int32)), .unset, .unset, .unset] [])) tT
      refine XS.iconst X4_.here hx rfl (Jvm.hb hby at_55) ?_
      show Steps pP.tables eE below (T4_.setTop (mkF mM 56 #[.val (.int p1), .val (.ref b_1_), .val (.int (p1 / (12 : Int32))), .val (.int (p1 % (12 : Int32))), .val (.int (0 : Int32)), .unset, .unset, .unset] [(.int (1 : Int32))])) tT
      refine XS.goto X4_.here hx rfl (pc0 := 56) (pc' := 60) rfl (Jvm.hb hby at_56) (by decide) (by decide) ?_
      show Steps pP.tables eE below (T4_.setTop (mkF mM 60 #[.val (.int p1), .val (.ref b_1_), .val (.int (p1 / (12 : Int32))), .val (.int (p1 % (12 : Int32))), .val (.int (0 : Int32)), .unset, .unset, .unset] [(.int (1 : Int32))])) tT
      refine XS.istore X4_.here hx rfl (Jvm.hb hby at_60) rfl (l' := #[.val (.int p1), .val (.ref b_1_), .val (.int (p1 / (12 : Int32))), .val (.int (p1 % (12 : Int32))), .val (.int (0 : Int32)), .val (.int (1 : Int32)), .unset, .unset]) rfl ?_
      show Steps pP.tables eE below (T4_.setTop (mkF mM 62 #[.val (.int p1), .val (.ref b_1_), .val (.int (p1 / (12 : Int32))), .val (.int (p1 % (12 : Int32))), .val (.int (0 : Int32)), .val (.int (1 : Int32)), .unset, .unset] [])) tT
      refine XS.iloadN X4_.here hx rfl (Jvm.hb hby at_62) rfl ?_
      show Steps pP.tables eE below (T4_.setTop (mkF mM 63 #[.val (.int p1), .val (.ref b_1_), .val (.int (p1 / (12 : Int32))), .val (.int (p1 % (12 : Int32))), .val (.int (0 : Int32)), .val (.int (1 : Int32)), .unset, .unset] [(.int (p1 / (12 : Int32)))])) tT
      refine XS.i2l X4_.here hx rfl (Jvm.hb hby at_63) rfl ?_
      show Steps pP.tables eE below (T4_.setTop (mkF mM 64 #[.val (.int p1), .val (.ref b_1_), .val (.int (p1 / (12 : Int32))), .val (.int (p1 % (12 : Int32))), .val (.int (0 : Int32)), .val (.int (1 : Int32)), .unset, .unset] [(.long ((p1 / (12 : Int32)).toInt64))])) tT
      refine X4_.ldc2Long hx hown (mvT hZ (hw _ (List.mem_of_getElem? (i := 33) rfl))) (g := (mkF mM 64 #[.val (.int p1), .val (.ref b_1_), .val (.int (p1 / (12 : Int32))), .val (.int (p1 % (12 : Int32))), .val (.int (0 : Int32)), .val (.int (1 : Int32)), .unset, .unset] [(.long ((p1 / (12 : Int32)).toInt64))])) rfl (Jvm.hb hby at_64) _ ?_
      show Steps pP.tables eE below (T4_.setTop (mkF mM 67 #[.val (.int p1), .val (.ref b_1_), .val (.int (p1 / (12 : Int32))), .val (.int (p1 % (12 : Int32))), .val (.int (0 : Int32)), .val (.int (1 : Int32)), .unset, .unset] [(.long (12 : Int64)), (.long ((p1 / (12 : Int32)).toInt64))])) tT
      refine XS.lmul X4_.here hx rfl (Jvm.hb hby at_67) rfl ?_
      show Steps pP.tables eE below (T4_.setTop (mkF mM 68 #[.val (.int p1), .val (.ref b_1_), .val (.int (p1 / (12 : Int32))), .val (.int (p1 % (12 : Int32))), .val (.int (0 : Int32)), .val (.int (1 : Int32)), .unset, .unset] [(.long (((p1 / (12 : Int32)).toInt64) * (12 : Int64)))])) tT
      refine XS.iloadN X4_.here hx rfl (Jvm.hb hby at_68) rfl ?_
      show Steps pP.tables eE below (T4_.setTop (mkF mM 69 #[.val (.int p1), .val (.ref b_1_), .val (.int (p1 / (12 : Int32))), .val (.int (p1 % (12 : Int32))), .val (.int (0 : Int32)), .val (.int (1 : Int32)), .unset, .unset] [(.int (p1 % (12 : Int32))), (.long (((p1 / (12 : Int32)).toInt64) * (12 : Int64)))])) tT
      refine XS.i2l X4_.here hx rfl (Jvm.hb hby at_69) rfl ?_
      show Steps pP.tables eE below (T4_.setTop (mkF mM 70 #[.val (.int p1), .val (.ref b_1_), .val (.int (p1 / (12 : Int32))), .val (.int (p1 % (12 : Int32))), .val (.int (0 : Int32)), .val (.int (1 : Int32)), .unset, .unset] [(.long ((p1 % (12 : Int32)).toInt64)), (.long (((p1 / (12 : Int32)).toInt64) * (12 : Int64)))])) tT
      refine XS.ladd X4_.here hx rfl (Jvm.hb hby at_70) rfl ?_
      show Steps pP.tables eE below (T4_.setTop (mkF mM 71 #[.val (.int p1), .val (.ref b_1_), .val (.int (p1 / (12 : Int32))), .val (.int (p1 % (12 : Int32))), .val (.int (0 : Int32)), .val (.int (1 : Int32)), .unset, .unset] [(.long ((((p1 / (12 : Int32)).toInt64) * (12 : Int64)) + ((p1 % (12 : Int32)).toInt64)))])) tT
      refine XS.lstore X4_.here hx rfl (Jvm.hb hby at_71) rfl (l' := #[.val (.int p1), .val (.ref b_1_), .val (.int (p1 / (12 : Int32))), .val (.int (p1 % (12 : Int32))), .val (.int (0 : Int32)), .val (.int (1 : Int32)), .val (.long ((((p1 / (12 : Int32)).toInt64) * (12 : Int64)) + ((p1 % (12 : Int32)).toInt64))), .second]) rfl ?_
      show Steps pP.tables eE below (T4_.setTop (mkF mM 73 #[.val (.int p1), .val (.ref b_1_), .val (.int (p1 / (12 : Int32))), .val (.int (p1 % (12 : Int32))), .val (.int (0 : Int32)), .val (.int (1 : Int32)), .val (.long ((((p1 / (12 : Int32)).toInt64) * (12 : Int64)) + ((p1 % (12 : Int32)).toInt64))), .second] [])) tT
      refine XS.iload X4_.here hx rfl (Jvm.hb hby at_73) rfl ?_
      show Steps pP.tables eE below (T4_.setTop (mkF mM 75 #[.val (.int p1), .val (.ref b_1_), .val (.int (p1 / (12 : Int32))), .val (.int (p1 % (12 : Int32))), .val (.int (0 : Int32)), .val (.int (1 : Int32)), .val (.long ((((p1 / (12 : Int32)).toInt64) * (12 : Int64)) + ((p1 % (12 : Int32)).toInt64))), .second] [(.int (0 : Int32))])) tT
      refine XS.ifNo X4_.here hx rfl (Jvm.hb hby at_75) rfl ((if0 _ _).trans (teq ((by decide) : (0 : Int32) = (0 : Int32))).2) ?_
      show Steps pP.tables eE below (T4_.setTop (mkF mM 78 #[.val (.int p1), .val (.ref b_1_), .val (.int (p1 / (12 : Int32))), .val (.int (p1 % (12 : Int32))), .val (.int (0 : Int32)), .val (.int (1 : Int32)), .val (.long ((((p1 / (12 : Int32)).toInt64) * (12 : Int64)) + ((p1 % (12 : Int32)).toInt64))), .second] [])) tT
      refine XS.lload X4_.here hx rfl (Jvm.hb hby at_78) rfl ?_
      show Steps pP.tables eE below (T4_.setTop (mkF mM 80 #[.val (.int p1), .val (.ref b_1_), .val (.int (p1 / (12 : Int32))), .val (.int (p1 % (12 : Int32))), .val (.int (0 : Int32)), .val (.int (1 : Int32)), .val (.long ((((p1 / (12 : Int32)).toInt64) * (12 : Int64)) + ((p1 % (12 : Int32)).toInt64))), .second] [(.long ((((p1 / (12 : Int32)).toInt64) * (12 : Int64)) + ((p1 % (12 : Int32)).toInt64)))])) tT
      refine XS.iloadN X4_.here hx rfl (Jvm.hb hby at_80) rfl ?_
      show Steps pP.tables eE below (T4_.setTop (mkF mM 81 #[.val (.int p1), .val (.ref b_1_), .val (.int (p1 / (12 : Int32))), .val (.int (p1 % (12 : Int32))), .val (.int (0 : Int32)), .val (.int (1 : Int32)), .val (.long ((((p1 / (12 : Int32)).toInt64) * (12 : Int64)) + ((p1 % (12 : Int32)).toInt64))), .second] [(.int p1), (.long ((((p1 / (12 : Int32)).toInt64) * (12 : Int64)) + ((p1 % (12 : Int32)).toInt64)))])) tT
      refine XS.i2l X4_.here hx rfl (Jvm.hb hby at_81) rfl ?_
      show Steps pP.tables eE below (T4_.setTop (mkF mM 82 #[.val (.int p1), .val (.ref b_1_), .val (.int (p1 / (12 : Int32))), .val (.int (p1 % (12 : Int32))), .val (.int (0 : Int32)), .val (.int (1 : Int32)), .val (.long ((((p1 / (12 : Int32)).toInt64) * (12 : Int64)) + ((p1 % (12 : Int32)).toInt64))), .second] [(.long (p1.toInt64)), (.long ((((p1 / (12 : Int32)).toInt64) * (12 : Int64)) + ((p1 % (12 : Int32)).toInt64)))])) tT
      refine XS.lcmp X4_.here hx rfl (Jvm.hb hby at_82) rfl ?_
      show Steps pP.tables eE below (T4_.setTop (mkF mM 83 #[.val (.int p1), .val (.ref b_1_), .val (.int (p1 / (12 : Int32))), .val (.int (p1 % (12 : Int32))), .val (.int (0 : Int32)), .val (.int (1 : Int32)), .val (.long ((((p1 / (12 : Int32)).toInt64) * (12 : Int64)) + ((p1 % (12 : Int32)).toInt64))), .second] [(.int (lcmpW ((((p1 / (12 : Int32)).toInt64) * (12 : Int64)) + ((p1 % (12 : Int32)).toInt64)) (p1.toInt64)))])) tT
      refine XS.ifNo X4_.here hx rfl (Jvm.hb hby at_83) rfl ((if0 _ _).trans (teq ((lw_eq ((((p1 / (12 : Int32)).toInt64) * (12 : Int64)) + ((p1 % (12 : Int32)).toInt64)) (p1.toInt64)).mpr (own_back p1 : ((((p1 / (12 : Int32)).toInt64) * (12 : Int64)) + ((p1 % (12 : Int32)).toInt64)) = (p1.toInt64)))).2) ?_
      show Steps pP.tables eE below (T4_.setTop (mkF mM 86 #[.val (.int p1), .val (.ref b_1_), .val (.int (p1 / (12 : Int32))), .val (.int (p1 % (12 : Int32))), .val (.int (0 : Int32)), .val (.int (1 : Int32)), .val (.long ((((p1 / (12 : Int32)).toInt64) * (12 : Int64)) + ((p1 % (12 : Int32)).toInt64))), .second] [])) tT
      refine XS.iload X4_.here hx rfl (Jvm.hb hby at_86) rfl ?_
      show Steps pP.tables eE below (T4_.setTop (mkF mM 88 #[.val (.int p1), .val (.ref b_1_), .val (.int (p1 / (12 : Int32))), .val (.int (p1 % (12 : Int32))), .val (.int (0 : Int32)), .val (.int (1 : Int32)), .val (.long ((((p1 / (12 : Int32)).toInt64) * (12 : Int64)) + ((p1 % (12 : Int32)).toInt64))), .second] [(.int (1 : Int32))])) tT
      refine XS.ifNo X4_.here hx rfl (Jvm.hb hby at_88) rfl ((if0 _ _).trans (feq ((by decide) : ¬ ((1 : Int32) = (0 : Int32)))).1) ?_
      show Steps pP.tables eE below (T4_.setTop (mkF mM 91 #[.val (.int p1), .val (.ref b_1_), .val (.int (p1 / (12 : Int32))), .val (.int (p1 % (12 : Int32))), .val (.int (0 : Int32)), .val (.int (1 : Int32)), .val (.long ((((p1 / (12 : Int32)).toInt64) * (12 : Int64)) + ((p1 % (12 : Int32)).toInt64))), .second] [])) tT
      refine XS.iconst X4_.here hx rfl (Jvm.hb hby at_91) ?_
      show Steps pP.tables eE below (T4_.setTop (mkF mM 92 #[.val (.int p1), .val (.ref b_1_), .val (.int (p1 / (12 : Int32))), .val (.int (p1 % (12 : Int32))), .val (.int (0 : Int32)), .val (.int (1 : Int32)), .val (.long ((((p1 / (12 : Int32)).toInt64) * (12 : Int64)) + ((p1 % (12 : Int32)).toInt64))), .second] [(.int (1 : Int32))])) tT
      refine XS.goto X4_.here hx rfl (pc0 := 92) (pc' := 96) rfl (Jvm.hb hby at_92) (by decide) (by decide) ?_
      show Steps pP.tables eE below (T4_.setTop (mkF mM 96 #[.val (.int p1), .val (.ref b_1_), .val (.int (p1 / (12 : Int32))), .val (.int (p1 % (12 : Int32))), .val (.int (0 : Int32)), .val (.int (1 : Int32)), .val (.long ((((p1 / (12 : Int32)).toInt64) * (12 : Int64)) + ((p1 % (12 : Int32)).toInt64))), .second] [(.int (1 : Int32))])) tT
      exact kK
    obtain ⟨fs, hr, hrun, hended, hW, hsame⟩ := X4_.leave (v := some (.int (1 : Int32))) (fun h => by rw [Bd.returns] at h; cases h)
    refine ⟨_, _, ?_, hrun, hended, _, _, rfl, ?_, ⟨_, rfl⟩, hW, hsame.mono (by decide) (by decide)⟩
    · show Steps pP.tables eE below (T4_.setTop (mkF mM 96 #[.val (.int p1), .val (.ref b_1_), .val (.int (p1 / (12 : Int32))), .val (.int (p1 % (12 : Int32))), .val (.int (0 : Int32)), .val (.int (1 : Int32)), .val (.long ((((p1 / (12 : Int32)).toInt64) * (12 : Int64)) + ((p1 % (12 : Int32)).toInt64))), .second] [(.int (1 : Int32))])) _
      exact retN X4_ hx (t := .boolean) Bd.returns (by simp) (Jvm.hb hby at_96) hr
    · show Q_rm0 Z p1 h0 n0 _ T4_.heap _
      rw [p4__0]
      exact ⟨rfl, N4_⟩
  · refine own_fin (b := T4_.setTop (mkF mM 96 #[.val (.int p1), .val (.ref b_1_), .val (.int (p1 / (12 : Int32))), .val (.int (p1 % (12 : Int32))), .val (.int (0 : Int32)), .val (.int (1 : Int32)), .val (.long ((((p1 / (12 : Int32)).toInt64) * (12 : Int64)) + ((p1 % (12 : Int32)).toInt64))), .second] [(.int (1 : Int32))])) (fun tT kK => ?_) ?_
    · show Steps pP.tables eE below (T4_.setTop (mkF mM 22 #[.val (.int p1), .val (.ref b_1_), .val (.int (p1 / (12 : Int32))), .val (.int (p1 % (12 : Int32))), .val (.int (0 : Int32)), .unset, .unset, .unset] [(.int p1)])) tT
      refine XS.ifNo X4_.here hx rfl (Jvm.hb hby at_22) rfl ((if0 _ _).trans (flt (hc22_5_ : ¬ (p1 < (0 : Int32)))).1) ?_
      show Steps pP.tables eE below (T4_.setTop (mkF mM 25 #[.val (.int p1), .val (.ref b_1_), .val (.int (p1 / (12 : Int32))), .val (.int (p1 % (12 : Int32))), .val (.int (0 : Int32)), .unset, .unset, .unset] [])) tT
      refine XS.iloadN X4_.here hx rfl (Jvm.hb hby at_25) rfl ?_
      show Steps pP.tables eE below (T4_.setTop (mkF mM 26 #[.val (.int p1), .val (.ref b_1_), .val (.int (p1 / (12 : Int32))), .val (.int (p1 % (12 : Int32))), .val (.int (0 : Int32)), .unset, .unset, .unset] [(.int (p1 % (12 : Int32)))])) tT
      refine XS.ifNo X4_.here hx rfl (Jvm.hb hby at_26) rfl ((if0 _ _).trans (flt (own_a1 hc22_5_ : ¬ ((p1 % (12 : Int32)) < (0 : Int32)))).1) ?_
      show Steps pP.tables eE below (T4_.setTop (mkF mM 29 #[.val (.int p1), .val (.ref b_1_), .val (.int (p1 / (12 : Int32))), .val (.int (p1 % (12 : Int32))), .val (.int (0 : Int32)), .unset, .unset, .unset] [])) tT
      refine XS.iloadN X4_.here hx rfl (Jvm.hb hby at_29) rfl ?_
      show Steps pP.tables eE below (T4_.setTop (mkF mM 30 #[.val (.int p1), .val (.ref b_1_), .val (.int (p1 / (12 : Int32))), .val (.int (p1 % (12 : Int32))), .val (.int (0 : Int32)), .unset, .unset, .unset] [(.int (p1 % (12 : Int32)))])) tT
      refine XS.bipush X4_.here hx rfl (Jvm.hb hby at_30) ?_
      show Steps pP.tables eE below (T4_.setTop (mkF mM 32 #[.val (.int p1), .val (.ref b_1_), .val (.int (p1 / (12 : Int32))), .val (.int (p1 % (12 : Int32))), .val (.int (0 : Int32)), .unset, .unset, .unset] [(.int (12 : Int32)), (.int (p1 % (12 : Int32)))])) tT
      refine XS.icmpNo X4_.here hx rfl (Jvm.hb hby at_32) rfl (tlt (own_a2 hc22_5_ : (p1 % (12 : Int32)) < (12 : Int32))).2.1 ?_
      show Steps pP.tables eE below (T4_.setTop (mkF mM 35 #[.val (.int p1), .val (.ref b_1_), .val (.int (p1 / (12 : Int32))), .val (.int (p1 % (12 : Int32))), .val (.int (0 : Int32)), .unset, .unset, .unset] [])) tT
      refine XS.iconst X4_.here hx rfl (Jvm.hb hby at_35) ?_
      show Steps pP.tables eE below (T4_.setTop (mkF mM 36 #[.val (.int p1), .val (.ref b_1_), .val (.int (p1 / (12 : Int32))), .val (.int (p1 % (12 : Int32))), .val (.int (0 : Int32)), .unset, .unset, .unset] [(.int (1 : Int32))])) tT
      refine XS.goto X4_.here hx rfl (pc0 := 36) (pc' := 40) rfl (Jvm.hb hby at_36) (by decide) (by decide) ?_
      show Steps pP.tables eE below (T4_.setTop (mkF mM 40 #[.val (.int p1), .val (.ref b_1_), .val (.int (p1 / (12 : Int32))), .val (.int (p1 % (12 : Int32))), .val (.int (0 : Int32)), .unset, .unset, .unset] [(.int (1 : Int32))])) tT
      refine XS.istore X4_.here hx rfl (Jvm.hb hby at_40) rfl (l' := #[.val (.int p1), .val (.ref b_1_), .val (.int (p1 / (12 : Int32))), .val (.int (p1 % (12 : Int32))), .val (.int (0 : Int32)), .val (.int (1 : Int32)), .unset, .unset]) rfl ?_
      show Steps pP.tables eE below (T4_.setTop (mkF mM 42 #[.val (.int p1), .val (.ref b_1_), .val (.int (p1 / (12 : Int32))), .val (.int (p1 % (12 : Int32))), .val (.int (0 : Int32)), .val (.int (1 : Int32)), .unset, .unset] [])) tT
      refine XS.goto X4_.here hx rfl (pc0 := 42) (pc' := 62) rfl (Jvm.hb hby at_42) (by decide) (by decide) ?_
      show Steps pP.tables eE below (T4_.setTop (mkF mM 62 #[.val (.int p1), .val (.ref b_1_), .val (.int (p1 / (12 : Int32))), .val (.int (p1 % (12 : Int32))), .val (.int (0 : Int32)), .val (.int (1 : Int32)), .unset, .unset] [])) tT
      refine XS.iloadN X4_.here hx rfl (Jvm.hb hby at_62) rfl ?_
      show Steps pP.tables eE below (T4_.setTop (mkF mM 63 #[.val (.int p1), .val (.ref b_1_), .val (.int (p1 / (12 : Int32))), .val (.int (p1 % (12 : Int32))), .val (.int (0 : Int32)), .val (.int (1 : Int32)), .unset, .unset] [(.int (p1 / (12 : Int32)))])) tT
      refine XS.i2l X4_.here hx rfl (Jvm.hb hby at_63) rfl ?_
      show Steps pP.tables eE below (T4_.setTop (mkF mM 64 #[.val (.int p1), .val (.ref b_1_), .val (.int (p1 / (12 : Int32))), .val (.int (p1 % (12 : Int32))), .val (.int (0 : Int32)), .val (.int (1 : Int32)), .unset, .unset] [(.long ((p1 / (12 : Int32)).toInt64))])) tT
      refine X4_.ldc2Long hx hown (mvT hZ (hw _ (List.mem_of_getElem? (i := 33) rfl))) (g := (mkF mM 64 #[.val (.int p1), .val (.ref b_1_), .val (.int (p1 / (12 : Int32))), .val (.int (p1 % (12 : Int32))), .val (.int (0 : Int32)), .val (.int (1 : Int32)), .unset, .unset] [(.long ((p1 / (12 : Int32)).toInt64))])) rfl (Jvm.hb hby at_64) _ ?_
      show Steps pP.tables eE below (T4_.setTop (mkF mM 67 #[.val (.int p1), .val (.ref b_1_), .val (.int (p1 / (12 : Int32))), .val (.int (p1 % (12 : Int32))), .val (.int (0 : Int32)), .val (.int (1 : Int32)), .unset, .unset] [(.long (12 : Int64)), (.long ((p1 / (12 : Int32)).toInt64))])) tT
      refine XS.lmul X4_.here hx rfl (Jvm.hb hby at_67) rfl ?_
      show Steps pP.tables eE below (T4_.setTop (mkF mM 68 #[.val (.int p1), .val (.ref b_1_), .val (.int (p1 / (12 : Int32))), .val (.int (p1 % (12 : Int32))), .val (.int (0 : Int32)), .val (.int (1 : Int32)), .unset, .unset] [(.long (((p1 / (12 : Int32)).toInt64) * (12 : Int64)))])) tT
      refine XS.iloadN X4_.here hx rfl (Jvm.hb hby at_68) rfl ?_
      show Steps pP.tables eE below (T4_.setTop (mkF mM 69 #[.val (.int p1), .val (.ref b_1_), .val (.int (p1 / (12 : Int32))), .val (.int (p1 % (12 : Int32))), .val (.int (0 : Int32)), .val (.int (1 : Int32)), .unset, .unset] [(.int (p1 % (12 : Int32))), (.long (((p1 / (12 : Int32)).toInt64) * (12 : Int64)))])) tT
      refine XS.i2l X4_.here hx rfl (Jvm.hb hby at_69) rfl ?_
      show Steps pP.tables eE below (T4_.setTop (mkF mM 70 #[.val (.int p1), .val (.ref b_1_), .val (.int (p1 / (12 : Int32))), .val (.int (p1 % (12 : Int32))), .val (.int (0 : Int32)), .val (.int (1 : Int32)), .unset, .unset] [(.long ((p1 % (12 : Int32)).toInt64)), (.long (((p1 / (12 : Int32)).toInt64) * (12 : Int64)))])) tT
      refine XS.ladd X4_.here hx rfl (Jvm.hb hby at_70) rfl ?_
      show Steps pP.tables eE below (T4_.setTop (mkF mM 71 #[.val (.int p1), .val (.ref b_1_), .val (.int (p1 / (12 : Int32))), .val (.int (p1 % (12 : Int32))), .val (.int (0 : Int32)), .val (.int (1 : Int32)), .unset, .unset] [(.long ((((p1 / (12 : Int32)).toInt64) * (12 : Int64)) + ((p1 % (12 : Int32)).toInt64)))])) tT
      refine XS.lstore X4_.here hx rfl (Jvm.hb hby at_71) rfl (l' := #[.val (.int p1), .val (.ref b_1_), .val (.int (p1 / (12 : Int32))), .val (.int (p1 % (12 : Int32))), .val (.int (0 : Int32)), .val (.int (1 : Int32)), .val (.long ((((p1 / (12 : Int32)).toInt64) * (12 : Int64)) + ((p1 % (12 : Int32)).toInt64))), .second]) rfl ?_
      show Steps pP.tables eE below (T4_.setTop (mkF mM 73 #[.val (.int p1), .val (.ref b_1_), .val (.int (p1 / (12 : Int32))), .val (.int (p1 % (12 : Int32))), .val (.int (0 : Int32)), .val (.int (1 : Int32)), .val (.long ((((p1 / (12 : Int32)).toInt64) * (12 : Int64)) + ((p1 % (12 : Int32)).toInt64))), .second] [])) tT
      refine XS.iload X4_.here hx rfl (Jvm.hb hby at_73) rfl ?_
      show Steps pP.tables eE below (T4_.setTop (mkF mM 75 #[.val (.int p1), .val (.ref b_1_), .val (.int (p1 / (12 : Int32))), .val (.int (p1 % (12 : Int32))), .val (.int (0 : Int32)), .val (.int (1 : Int32)), .val (.long ((((p1 / (12 : Int32)).toInt64) * (12 : Int64)) + ((p1 % (12 : Int32)).toInt64))), .second] [(.int (0 : Int32))])) tT
      refine XS.ifNo X4_.here hx rfl (Jvm.hb hby at_75) rfl ((if0 _ _).trans (teq ((by decide) : (0 : Int32) = (0 : Int32))).2) ?_
      show Steps pP.tables eE below (T4_.setTop (mkF mM 78 #[.val (.int p1), .val (.ref b_1_), .val (.int (p1 / (12 : Int32))), .val (.int (p1 % (12 : Int32))), .val (.int (0 : Int32)), .val (.int (1 : Int32)), .val (.long ((((p1 / (12 : Int32)).toInt64) * (12 : Int64)) + ((p1 % (12 : Int32)).toInt64))), .second] [])) tT
      refine XS.lload X4_.here hx rfl (Jvm.hb hby at_78) rfl ?_
      show Steps pP.tables eE below (T4_.setTop (mkF mM 80 #[.val (.int p1), .val (.ref b_1_), .val (.int (p1 / (12 : Int32))), .val (.int (p1 % (12 : Int32))), .val (.int (0 : Int32)), .val (.int (1 : Int32)), .val (.long ((((p1 / (12 : Int32)).toInt64) * (12 : Int64)) + ((p1 % (12 : Int32)).toInt64))), .second] [(.long ((((p1 / (12 : Int32)).toInt64) * (12 : Int64)) + ((p1 % (12 : Int32)).toInt64)))])) tT
      refine XS.iloadN X4_.here hx rfl (Jvm.hb hby at_80) rfl ?_
      show Steps pP.tables eE below (T4_.setTop (mkF mM 81 #[.val (.int p1), .val (.ref b_1_), .val (.int (p1 / (12 : Int32))), .val (.int (p1 % (12 : Int32))), .val (.int (0 : Int32)), .val (.int (1 : Int32)), .val (.long ((((p1 / (12 : Int32)).toInt64) * (12 : Int64)) + ((p1 % (12 : Int32)).toInt64))), .second] [(.int p1), (.long ((((p1 / (12 : Int32)).toInt64) * (12 : Int64)) + ((p1 % (12 : Int32)).toInt64)))])) tT
      refine XS.i2l X4_.here hx rfl (Jvm.hb hby at_81) rfl ?_
      show Steps pP.tables eE below (T4_.setTop (mkF mM 82 #[.val (.int p1), .val (.ref b_1_), .val (.int (p1 / (12 : Int32))), .val (.int (p1 % (12 : Int32))), .val (.int (0 : Int32)), .val (.int (1 : Int32)), .val (.long ((((p1 / (12 : Int32)).toInt64) * (12 : Int64)) + ((p1 % (12 : Int32)).toInt64))), .second] [(.long (p1.toInt64)), (.long ((((p1 / (12 : Int32)).toInt64) * (12 : Int64)) + ((p1 % (12 : Int32)).toInt64)))])) tT
      refine XS.lcmp X4_.here hx rfl (Jvm.hb hby at_82) rfl ?_
      show Steps pP.tables eE below (T4_.setTop (mkF mM 83 #[.val (.int p1), .val (.ref b_1_), .val (.int (p1 / (12 : Int32))), .val (.int (p1 % (12 : Int32))), .val (.int (0 : Int32)), .val (.int (1 : Int32)), .val (.long ((((p1 / (12 : Int32)).toInt64) * (12 : Int64)) + ((p1 % (12 : Int32)).toInt64))), .second] [(.int (lcmpW ((((p1 / (12 : Int32)).toInt64) * (12 : Int64)) + ((p1 % (12 : Int32)).toInt64)) (p1.toInt64)))])) tT
      refine XS.ifNo X4_.here hx rfl (Jvm.hb hby at_83) rfl ((if0 _ _).trans (teq ((lw_eq ((((p1 / (12 : Int32)).toInt64) * (12 : Int64)) + ((p1 % (12 : Int32)).toInt64)) (p1.toInt64)).mpr (own_back p1 : ((((p1 / (12 : Int32)).toInt64) * (12 : Int64)) + ((p1 % (12 : Int32)).toInt64)) = (p1.toInt64)))).2) ?_
      show Steps pP.tables eE below (T4_.setTop (mkF mM 86 #[.val (.int p1), .val (.ref b_1_), .val (.int (p1 / (12 : Int32))), .val (.int (p1 % (12 : Int32))), .val (.int (0 : Int32)), .val (.int (1 : Int32)), .val (.long ((((p1 / (12 : Int32)).toInt64) * (12 : Int64)) + ((p1 % (12 : Int32)).toInt64))), .second] [])) tT
      refine XS.iload X4_.here hx rfl (Jvm.hb hby at_86) rfl ?_
      show Steps pP.tables eE below (T4_.setTop (mkF mM 88 #[.val (.int p1), .val (.ref b_1_), .val (.int (p1 / (12 : Int32))), .val (.int (p1 % (12 : Int32))), .val (.int (0 : Int32)), .val (.int (1 : Int32)), .val (.long ((((p1 / (12 : Int32)).toInt64) * (12 : Int64)) + ((p1 % (12 : Int32)).toInt64))), .second] [(.int (1 : Int32))])) tT
      refine XS.ifNo X4_.here hx rfl (Jvm.hb hby at_88) rfl ((if0 _ _).trans (feq ((by decide) : ¬ ((1 : Int32) = (0 : Int32)))).1) ?_
      show Steps pP.tables eE below (T4_.setTop (mkF mM 91 #[.val (.int p1), .val (.ref b_1_), .val (.int (p1 / (12 : Int32))), .val (.int (p1 % (12 : Int32))), .val (.int (0 : Int32)), .val (.int (1 : Int32)), .val (.long ((((p1 / (12 : Int32)).toInt64) * (12 : Int64)) + ((p1 % (12 : Int32)).toInt64))), .second] [])) tT
      refine XS.iconst X4_.here hx rfl (Jvm.hb hby at_91) ?_
      show Steps pP.tables eE below (T4_.setTop (mkF mM 92 #[.val (.int p1), .val (.ref b_1_), .val (.int (p1 / (12 : Int32))), .val (.int (p1 % (12 : Int32))), .val (.int (0 : Int32)), .val (.int (1 : Int32)), .val (.long ((((p1 / (12 : Int32)).toInt64) * (12 : Int64)) + ((p1 % (12 : Int32)).toInt64))), .second] [(.int (1 : Int32))])) tT
      refine XS.goto X4_.here hx rfl (pc0 := 92) (pc' := 96) rfl (Jvm.hb hby at_92) (by decide) (by decide) ?_
      show Steps pP.tables eE below (T4_.setTop (mkF mM 96 #[.val (.int p1), .val (.ref b_1_), .val (.int (p1 / (12 : Int32))), .val (.int (p1 % (12 : Int32))), .val (.int (0 : Int32)), .val (.int (1 : Int32)), .val (.long ((((p1 / (12 : Int32)).toInt64) * (12 : Int64)) + ((p1 % (12 : Int32)).toInt64))), .second] [(.int (1 : Int32))])) tT
      exact kK
    obtain ⟨fs, hr, hrun, hended, hW, hsame⟩ := X4_.leave (v := some (.int (1 : Int32))) (fun h => by rw [Bd.returns] at h; cases h)
    refine ⟨_, _, ?_, hrun, hended, _, _, rfl, ?_, ⟨_, rfl⟩, hW, hsame.mono (by decide) (by decide)⟩
    · show Steps pP.tables eE below (T4_.setTop (mkF mM 96 #[.val (.int p1), .val (.ref b_1_), .val (.int (p1 / (12 : Int32))), .val (.int (p1 % (12 : Int32))), .val (.int (0 : Int32)), .val (.int (1 : Int32)), .val (.long ((((p1 / (12 : Int32)).toInt64) * (12 : Int64)) + ((p1 % (12 : Int32)).toInt64))), .second] [(.int (1 : Int32))])) _
      exact retN X4_ hx (t := .boolean) Bd.returns (by simp) (Jvm.hb hby at_96) hr
    · show Q_rm0 Z p1 h0 n0 _ T4_.heap _
      rw [p4__0]
      exact ⟨rfl, N4_⟩
set_option maxRecDepth 65536 in
set_option maxHeartbeats 40000000 in
theorem comes_1 {Post : Tables → Env → Array Value → State → Outcome → State → Prop} (hpost : ∀ tb e args s v u, (limb_1_1.after args s (.returned v) u = true ∧ limb_1_2.after args s (.returned v) u = true ∧ True) → FrameEnd s (.returned v) u (Jvm.fieldLocs frame_1_writes args s ++ Jvm.arrayLocs frame_1_arrays args s ++ Jvm.staticLocs frame_1_statics s) 16 128 → Post tb e args s (.returned v) u) :
    ArmFor flags0 classFile x code maxLocals ret World_1 tables_1 room_1 Calls_1 rest_1 Pre_1 Post := by
  intro l hfl _ _ p e ha hc hk s m args below hf hA hF happ hP
  obtain ⟨hcalls, hrest, hpre⟩ := hP
  obtain ⟨-, -, -, hnamed, -, -, -, hat⟩ := (Spec.applies_iff hf).mp happ
  obtain ⟨hg, hn⟩ := and_e (Cond.before_iff.mp (show (Jvm.Cond.and given_1 narrow_1).before args s = true from hpre))
  obtain ⟨gg1, gg2⟩ := and_e hg
  obtain ⟨w0, rfl⟩ : ∃ w0 : Value, args = #[w0] := by
    have hs : args.size = 1 := by simpa [Cond.value, given_1] using gg1
    obtain ⟨L⟩ := args
    match L, hs with
    | [w0], _ => exact ⟨w0, rfl⟩
  have hw := fun d (hd : d ∈ tables_1) => atoms_spec (ws := Jvm.Cond.code x code maxLocals ret :: tables_1) hat d (List.mem_cons_of_mem _ hd)
  have hfit : Fit s := fun {y c} hc i hi => by
    obtain ⟨ha, rfl⟩ := Array.getElem?_eq_some_iff.mp hc
    have q := List.all_eq_true.mp ((Array.all_eq_true_iff_forall_mem.mp hF) _ (Array.getElem_mem ha)) i (List.mem_range.mpr hi)
    simpa [Array.getElem?_eq_getElem hi] using q
  obtain ⟨i0, ei0⟩ := is_v gg2
  obtain rfl : w0 = (.int i0) := Option.some.inj ei0
  obtain ⟨n, o, h1, h2, h3, _, L, rfl, ⟨rfl, N⟩, hq⟩ := rm0 l s _ hw tables_1 i0 s.heap s.heap.size (Nat.le_refl _)  p e ha hc hk s m _ below hf ((Spec.applies_iff_loose hf).mp happ).1 ⟨rfl, State.Warmed39.refl s, rfl⟩ trivial
  refine ⟨n, _, h1, h2, h3, hpost _ _ _ _ _ _ ⟨Cond.after_iff.mpr rfl, Cond.after_iff.mpr (eq_i res_at (Term.int_eval (1)) rfl), trivial⟩ ⟨hq.1, hq.2.1, (hq.2.2.sift fun y hy => Or.inr (N y hy)).mono (by decide) (by decide)⟩⟩
theorem main_1_1 : Claimed_1_1 := comes_1 fun _ _ _ _ _ _ h hF => ⟨h.1, hF⟩
theorem main_1_2 : Claimed_1_2 := comes_1 fun _ _ _ _ _ _ h hF => ⟨h.2.1, hF⟩
end Jvm.Pilot.@@N@@
namespace Jvm.Pilot.@@N@@
open Jvm Jvm.ClassFile Sem Op Lib Jvm.Free Jvm.Stand Jvm.Pilot.@@N@@.Jvm.D
/-! MADE BY PROGRAM (witnessworld.py) out of the Statement's table words and the real class files: 9 classes; the members and pool entries that the words name. The judged class is class 1, her method 1. -/
namespace start1
open Jvm.ClassFile
def u (s : String) : CpInfo := .utf8 (stringToUtf16 s)
/-- a pool by its gaps: so many unusable entries, then the entry; so many at the end -/
def gap : Nat → List CpInfo → List CpInfo
  | 0, r => r
  | n + 1, r => .unusable :: gap n r
def poolList (es : List (Nat × CpInfo)) (last : Nat) : List CpInfo := es.foldr (fun e r => gap e.1 (e.2 :: r)) (gap last [])
def pool (es : List (Nat × CpInfo)) (last : Nat) : Array CpInfo := ⟨poolList es last⟩
def fileOf (pool : Array CpInfo) (this : Nat) (attrs : Array Attribute := #[]) (ms : Array MethodInfo := #[]) (fl : Nat := 33) (sup : Nat := 0) (ifs : Array Nat := #[]) (fds : Array FieldInfo := #[]) : ClassFile where
  minorVersion := 0
  majorVersion := 65
  constantPool := pool
  accessFlags := fl
  thisClass := this
  superClass := sup
  interfaces := ifs
  fields := fds
  methods := ms
  attributes := attrs
def plain (name : String) (sup : Option ClassId) : Class where
  name := name
  kind := .ordinary
  loader := none
  accessFlags := 33
  super := sup
  interfaces := #[]
  cf := none
  fields := #[]
  methods := #[]
  instanceTypes := #[]
  staticTypes := #[]
  resolved := #[]
  callSites := []
  init := .initialized
  statics := none
  mirror := none

def pool0 : Array CpInfo := pool [(5, u "<init>"), (0, u "()V"), (1, .class_ 10), (1, u "java/lang/Object")] 113

def k0c0 : Code := { maxStack := 0, maxLocals := 1, code := object_method_1_code, exceptionTable := #[], attributes := #[] }
def k0m0 : Method := { name := "<init>", desc := "()V", sig := { parameters := [], returnType := none }, accessFlags := 1, code := some k0c0 }
/-- java/lang/Object -/
def k0 : Class := { plain "java/lang/Object" none with
  accessFlags := 33
  interfaces := #[]
  cf := some (fileOf pool0 8 #[] #[{ accessFlags := 1, nameIndex := 5, descriptorIndex := 6, attributes := #[] }] 33 0 #[] #[])
  fields := #[]
  methods := #[k0m0]
  instanceTypes := #[]
  staticTypes := #[]
  resolved := Array.replicate 124 none
  statics := none }

def pool1 : Array CpInfo := pool [(2, .class_ 4), (1, u "java/lang/Object"), (0, u "<init>"), (0, u "()V"), (0, .methodref 8 9), (0, .class_ 10), (0, .nameAndType 11 12), (0, u "com/example/vestwright/vestwright/YearsMonthsDays"), (0, u "ofMonths"), (0, u "(I)Lcom/example/vestwright/vestwright/YearsMonthsDays;"), (0, .methodref 8 14), (0, .nameAndType 15 16), (0, u "years"), (0, u "()I"), (0, .methodref 8 18), (0, .nameAndType 19 16), (0, u "months"), (0, .methodref 8 21), (0, .nameAndType 22 16), (0, u "days"), (0, .long 12), (1, .class_ 26), (0, u "com/example/vestwright/vestwright/YearsMonthsDaysOfMonthsPinLaw"), (2, u "law"), (0, u "(I)Z")] 3

def k1m0 : Method := { name := "<init>", desc := "()V", sig := { parameters := [], returnType := none }, accessFlags := 2, code := none }
def k1c1 : Code := { maxStack := 4, maxLocals := 8, code := code, exceptionTable := #[], attributes := #[] }
def k1m1 : Method := { name := "law", desc := "(I)Z", sig := { parameters := [.int], returnType := some .boolean }, accessFlags := 9, code := some k1c1 }
/-- com/example/vestwright/vestwright/YearsMonthsDaysOfMonthsPinLaw -/
def k1 : Class := { plain "com/example/vestwright/vestwright/YearsMonthsDaysOfMonthsPinLaw" (some 0) with
  accessFlags := 49
  interfaces := #[]
  cf := some (fileOf pool1 25 #[] #[{ accessFlags := 2, nameIndex := 5, descriptorIndex := 6, attributes := #[] }, { accessFlags := 9, nameIndex := 29, descriptorIndex := 30, attributes := #[] }] 49 2 #[] #[])
  fields := #[]
  methods := #[k1m0, k1m1]
  instanceTypes := #[]
  staticTypes := #[]
  resolved := Array.replicate 34 none
  statics := none }

def pool2 : Array CpInfo := pool [(1, .methodref 2 3), (0, .class_ 4), (0, .nameAndType 5 6), (0, u "java/lang/Object"), (0, u "<init>"), (0, u "()V"), (0, .fieldref 8 9), (0, .class_ 10), (0, .nameAndType 11 12), (0, u "com/example/vestwright/vestwright/YearsMonthsDays"), (0, u "years"), (0, u "I"), (0, .fieldref 8 14), (0, .nameAndType 15 12), (0, u "months"), (0, .fieldref 8 17), (0, .nameAndType 18 12), (0, u "days"), (15, u "()I"), (12, .methodref 8 48), (0, .nameAndType 5 49), (0, u "(III)V"), (24, u "ZERO"), (0, u "Lcom/example/vestwright/vestwright/YearsMonthsDays;"), (0, u "DECIMALS"), (7, u "(I)Lcom/example/vestwright/vestwright/YearsMonthsDays;"), (0, u "ofMonths")] 26

def k2c0 : Code := { maxStack := 2, maxLocals := 4, code := prog_10_method_1_code, exceptionTable := #[], attributes := #[] }
def k2m0 : Method := { name := "<init>", desc := "(III)V", sig := { parameters := [.int, .int, .int], returnType := none }, accessFlags := 2, code := some k2c0 }
def k2c1 : Code := { maxStack := 5, maxLocals := 1, code := prog_10_method_4_code, exceptionTable := #[], attributes := #[] }
def k2m1 : Method := { name := "ofMonths", desc := "(I)Lcom/example/vestwright/vestwright/YearsMonthsDays;", sig := { parameters := [.int], returnType := some (.object "com/example/vestwright/vestwright/YearsMonthsDays") }, accessFlags := 9, code := some k2c1 }
def k2c2 : Code := { maxStack := 1, maxLocals := 1, code := prog_10_method_5_code, exceptionTable := #[], attributes := #[] }
def k2m2 : Method := { name := "years", desc := "()I", sig := { parameters := [], returnType := some .int }, accessFlags := 1, code := some k2c2 }
def k2c3 : Code := { maxStack := 1, maxLocals := 1, code := prog_10_method_6_code, exceptionTable := #[], attributes := #[] }
def k2m3 : Method := { name := "months", desc := "()I", sig := { parameters := [], returnType := some .int }, accessFlags := 1, code := some k2c3 }
def k2c4 : Code := { maxStack := 1, maxLocals := 1, code := prog_10_method_7_code, exceptionTable := #[], attributes := #[] }
def k2m4 : Method := { name := "days", desc := "()I", sig := { parameters := [], returnType := some .int }, accessFlags := 1, code := some k2c4 }
/-- com/example/vestwright/vestwright/YearsMonthsDays -/
def k2 : Class := { plain "com/example/vestwright/vestwright/YearsMonthsDays" (some 0) with
  accessFlags := 33
  interfaces := #[]
  cf := some (fileOf pool2 8 #[] #[{ accessFlags := 2, nameIndex := 5, descriptorIndex := 49, attributes := #[] }, { accessFlags := 9, nameIndex := 85, descriptorIndex := 84, attributes := #[] }, { accessFlags := 1, nameIndex := 11, descriptorIndex := 34, attributes := #[] }, { accessFlags := 1, nameIndex := 15, descriptorIndex := 34, attributes := #[] }, { accessFlags := 1, nameIndex := 18, descriptorIndex := 34, attributes := #[] }] 33 2 #[] #[{ accessFlags := 25, nameIndex := 74, descriptorIndex := 75, attributes := #[] }, { accessFlags := 26, nameIndex := 76, descriptorIndex := 12, attributes := #[] }, { accessFlags := 18, nameIndex := 11, descriptorIndex := 12, attributes := #[] }, { accessFlags := 18, nameIndex := 15, descriptorIndex := 12, attributes := #[] }, { accessFlags := 18, nameIndex := 18, descriptorIndex := 12, attributes := #[] }])
  fields := #[{ name := "ZERO", type := (.object "com/example/vestwright/vestwright/YearsMonthsDays"), accessFlags := 25, slot := 0, constantValue := 0 }, { name := "DECIMALS", type := .int, accessFlags := 26, slot := 1, constantValue := 0 }, { name := "years", type := .int, accessFlags := 18, slot := 0, constantValue := 0 }, { name := "months", type := .int, accessFlags := 18, slot := 1, constantValue := 0 }, { name := "days", type := .int, accessFlags := 18, slot := 2, constantValue := 0 }]
  methods := #[k2m0, k2m1, k2m2, k2m3, k2m4]
  instanceTypes := #[.int, .int, .int]
  staticTypes := #[(.object "com/example/vestwright/vestwright/YearsMonthsDays"), .int]
  resolved := Array.replicate 112 none
  statics := none }

def pool3 : Array CpInfo := pool [(1, u "java/lang/Cloneable"), (0, .class_ 1), (0, u "java/lang/Object"), (0, .class_ 3)] 3

/-- java/lang/Cloneable -/
def k3 : Class := { plain "java/lang/Cloneable" (some 0) with
  accessFlags := 1537
  interfaces := #[]
  cf := some (fileOf pool3 2 #[] #[] 1537 4 #[] #[])
  fields := #[]
  methods := #[]
  instanceTypes := #[]
  staticTypes := #[]
  resolved := Array.replicate 8 none
  statics := none }

def pool4 : Array CpInfo := pool [(1, u "java/io/Serializable"), (0, .class_ 1), (0, u "java/lang/Object"), (0, .class_ 3)] 3

/-- java/io/Serializable -/
def k4 : Class := { plain "java/io/Serializable" (some 0) with
  accessFlags := 1537
  interfaces := #[]
  cf := some (fileOf pool4 2 #[] #[] 1537 4 #[] #[])
  fields := #[]
  methods := #[]
  instanceTypes := #[]
  staticTypes := #[]
  resolved := Array.replicate 8 none
  statics := none }

/-- the primitive byte -/
def k5 : Class := { plain "byte" none with kind := .primitive 'B', accessFlags := 0x411 }
/-- [B -/
def k6 : Class := { plain "[B" (some 0) with kind := .array 5 .byte, interfaces := #[3, 4], accessFlags := 1041 }

/-- the primitive int -/
def k7 : Class := { plain "int" none with kind := .primitive 'I', accessFlags := 0x411 }
/-- [I -/
def k8 : Class := { plain "[I" (some 0) with kind := .array 7 .int, interfaces := #[3, 4], accessFlags := 1041 }

def heap : Heap := #[]
def classes : Array Class := #[k0, k1, k2, k3, k4, k5, k6, k7, k8]
def interned : List (Array UInt16 × Addr) := []
def slotsUsed : Nat := 0
def theMethod : MethodId := ⟨1, 1⟩
def args0 : Array Value := #[.int 5]
def aboutOver (below : List Frame) : State where
  vm := { classes := classes, interned := interned.toArray }
  heap := heap
  slotsUsed := slotsUsed
  threads := #[{ frames := .invoking theMethod args0 :: below }]
def below0 : List Frame := [.native { method := ⟨0, 0⟩, args := #[] }]
def about1 : State := aboutOver below0
def p0 : Program := .bare "" "" ""
def e0 : Env := launch0.env 0 0 0
theorem w_frames : about1.frames = Frame.invoking theMethod args0 :: below0 := rfl
set_option maxRecDepth 65536 in
theorem w_args : argsFit about1.vm theMethod args0 = true := by decide +kernel
set_option maxRecDepth 65536 in
theorem w_heap : heapFits about1 = true := by decide +kernel
set_option maxRecDepth 65536 in
theorem w_runnable : about1.curStatus? = some .runnable := by decide +kernel
set_option maxRecDepth 65536 in
theorem w_alone : about1.alone = true := by decide +kernel
set_option maxRecDepth 65536 in
theorem w_named : about1.methodNamed? x = some theMethod := by decide +kernel
set_option maxRecDepth 65536 in
theorem w_hears : about1.hears theMethod below0 = true := by decide +kernel
set_option maxRecDepth 65536 in
theorem w_ripe : about1.ripe theMethod args0 below0 = true := by decide +kernel
theorem w_running : about1.status = .running := rfl
set_option maxRecDepth 65536 in
theorem w_room : about1.hasRoom e0.platform room_1 = true :=
  launch0.hasRoom_least _ room_1 (by decide +kernel) (by decide +kernel) (by decide +kernel) (by decide +kernel) (by decide +kernel) (by decide +kernel)
theorem allAtoms_all (ts : List Jvm.Cond) (a : Array Jvm.Value) (st : Jvm.State) : (allAtoms ts).before a st = ts.all (fun c => c.before a st) := by
  induction ts with
  | nil => rfl
  | cons c t ih =>
    show (Jvm.Cond.and c (allAtoms t)).before a st = _
    rw [Jvm.Cond.before_and, ih, List.all_cons]
def words1 : List Jvm.Cond := Jvm.Cond.code x code maxLocals ret :: tables_1
/-- a 'code' word, met by the world's own term for the bytes: nothing is compared byte by byte -/
theorem code_word {y : MethodName} {bytes : ByteArray} {mx : Nat} {rt : Option FieldType} {a : Array Value} {s : State} {m : MethodId} {meth : Method} {c : Code} (h1 : s.methodNamed? y = some m) (h2 : s.vm.method? m = some meth) (h3 : meth.code = some c) (h4 : c.code = bytes)
    (h5 : (c.maxLocals == mx && c.exceptionTable.isEmpty && decide (c.maxStack ≤ mostOperands) && decide (meth.sig.returnType = rt) && !meth.locks && decide (parseMethodDescriptor y.desc = some meth.sig)) = true) : (Jvm.Cond.code y bytes mx rt).before a s = true := by
  simp only [Bool.and_eq_true, beq_iff_eq, Bool.not_eq_true', decide_eq_true_eq] at h5
  obtain ⟨⟨⟨⟨⟨g1, g2⟩, g3⟩, g4⟩, g5⟩, g6⟩ := h5
  simp [Cond.before, Cond.holds, Cond.value, h1, h2, h3, h4, g1, g2, g3, g4, g5, g6]
def isCode : Jvm.Cond → Bool
  | .code _ _ _ _ => true
  | _ => false
theorem all_split {L : List Jvm.Cond} {P : Jvm.Cond → Bool} (h1 : L.all (fun c => isCode c || P c) = true) (h2 : ∀ c ∈ L.filter isCode, P c = true) : L.all P = true := by
  refine List.all_eq_true.mpr fun c hc => ?_
  have h := List.all_eq_true.mp h1 c hc
  rcases Bool.eq_false_or_eq_true (isCode c) with hi | hi
  · exact h2 c (List.mem_filter.mpr ⟨hc, hi⟩)
  · simpa [hi] using h
set_option maxRecDepth 65536 in
theorem w_c0 : (Jvm.Cond.code x code maxLocals ret).before args0 about1 = true := code_word (m := ⟨1, 1⟩) (meth := k1m1) (c := k1c1) (by decide +kernel) rfl rfl rfl (by decide +kernel)
set_option maxRecDepth 65536 in
theorem w_c1 : (Jvm.Cond.code ({ cls := "com/example/vestwright/vestwright/YearsMonthsDays", name := "ofMonths", desc := "(I)Lcom/example/vestwright/vestwright/YearsMonthsDays;" } : Jvm.MethodName) prog_10_method_4_code (1 : Nat) (Option.some (Jvm.ClassFile.FieldType.object "com/example/vestwright/vestwright/YearsMonthsDays"))).before args0 about1 = true := code_word (m := ⟨2, 1⟩) (meth := k2m1) (c := k2c1) (by decide +kernel) rfl rfl rfl (by decide +kernel)
set_option maxRecDepth 65536 in
theorem w_c2 : (Jvm.Cond.code ({ cls := "com/example/vestwright/vestwright/YearsMonthsDays", name := "<init>", desc := "(III)V" } : Jvm.MethodName) prog_10_method_1_code (4 : Nat) (Option.none : Option Jvm.ClassFile.FieldType)).before args0 about1 = true := code_word (m := ⟨2, 0⟩) (meth := k2m0) (c := k2c0) (by decide +kernel) rfl rfl rfl (by decide +kernel)
set_option maxRecDepth 65536 in
theorem w_c3 : (Jvm.Cond.code ({ cls := "java/lang/Object", name := "<init>", desc := "()V" } : Jvm.MethodName) object_method_1_code (1 : Nat) (Option.none : Option Jvm.ClassFile.FieldType)).before args0 about1 = true := code_word (m := ⟨0, 0⟩) (meth := k0m0) (c := k0c0) (by decide +kernel) rfl rfl rfl (by decide +kernel)
set_option maxRecDepth 65536 in
theorem w_c4 : (Jvm.Cond.code ({ cls := "com/example/vestwright/vestwright/YearsMonthsDays", name := "years", desc := "()I" } : Jvm.MethodName) prog_10_method_5_code (1 : Nat) (Option.some Jvm.ClassFile.FieldType.int)).before args0 about1 = true := code_word (m := ⟨2, 2⟩) (meth := k2m2) (c := k2c2) (by decide +kernel) rfl rfl rfl (by decide +kernel)
set_option maxRecDepth 65536 in
theorem w_c5 : (Jvm.Cond.code ({ cls := "com/example/vestwright/vestwright/YearsMonthsDays", name := "months", desc := "()I" } : Jvm.MethodName) prog_10_method_6_code (1 : Nat) (Option.some Jvm.ClassFile.FieldType.int)).before args0 about1 = true := code_word (m := ⟨2, 3⟩) (meth := k2m3) (c := k2c3) (by decide +kernel) rfl rfl rfl (by decide +kernel)
set_option maxRecDepth 65536 in
theorem w_c6 : (Jvm.Cond.code ({ cls := "com/example/vestwright/vestwright/YearsMonthsDays", name := "days", desc := "()I" } : Jvm.MethodName) prog_10_method_7_code (1 : Nat) (Option.some Jvm.ClassFile.FieldType.int)).before args0 about1 = true := code_word (m := ⟨2, 4⟩) (meth := k2m4) (c := k2c4) (by decide +kernel) rfl rfl rfl (by decide +kernel)
def codes1 : List Jvm.Cond := [Jvm.Cond.code x code maxLocals ret, Jvm.Cond.code ({ cls := "com/example/vestwright/vestwright/YearsMonthsDays", name := "ofMonths", desc := "(I)Lcom/example/vestwright/vestwright/YearsMonthsDays;" } : Jvm.MethodName) prog_10_method_4_code (1 : Nat) (Option.some (Jvm.ClassFile.FieldType.object "com/example/vestwright/vestwright/YearsMonthsDays")), Jvm.Cond.code ({ cls := "com/example/vestwright/vestwright/YearsMonthsDays", name := "<init>", desc := "(III)V" } : Jvm.MethodName) prog_10_method_1_code (4 : Nat) (Option.none : Option Jvm.ClassFile.FieldType), Jvm.Cond.code ({ cls := "java/lang/Object", name := "<init>", desc := "()V" } : Jvm.MethodName) object_method_1_code (1 : Nat) (Option.none : Option Jvm.ClassFile.FieldType), Jvm.Cond.code ({ cls := "com/example/vestwright/vestwright/YearsMonthsDays", name := "years", desc := "()I" } : Jvm.MethodName) prog_10_method_5_code (1 : Nat) (Option.some Jvm.ClassFile.FieldType.int), Jvm.Cond.code ({ cls := "com/example/vestwright/vestwright/YearsMonthsDays", name := "months", desc := "()I" } : Jvm.MethodName) prog_10_method_6_code (1 : Nat) (Option.some Jvm.ClassFile.FieldType.int), Jvm.Cond.code ({ cls := "com/example/vestwright/vestwright/YearsMonthsDays", name := "days", desc := "()I" } : Jvm.MethodName) prog_10_method_7_code (1 : Nat) (Option.some Jvm.ClassFile.FieldType.int)]
set_option maxRecDepth 65536 in
theorem codes_eq : words1.filter isCode = codes1 := rfl
theorem w_codes : ∀ c ∈ words1.filter isCode, c.before args0 about1 = true := by
  rw [codes_eq]
  intro c hc
  simp only [codes1, List.mem_cons, List.not_mem_nil, or_false] at hc
  rcases hc with rfl | rfl | rfl | rfl | rfl | rfl | rfl
  · exact w_c0
  · exact w_c1
  · exact w_c2
  · exact w_c3
  · exact w_c4
  · exact w_c5
  · exact w_c6
set_option maxRecDepth 65536 in
theorem w_t1 : (words1.take 24).all (fun c => isCode c || c.before args0 about1) = true := by decide +kernel
set_option maxRecDepth 65536 in
theorem w_t2 : (words1.drop 24).all (fun c => isCode c || c.before args0 about1) = true := by decide +kernel
theorem w_tables : (allAtoms (Jvm.Cond.code x code maxLocals ret :: tables_1)).before args0 about1 = true := by
  rw [allAtoms_all]
  show words1.all (fun c => c.before args0 about1) = true
  refine all_split ?_ w_codes
  rw [← List.take_append_drop 24 words1, List.all_append, w_t1, w_t2]
  rfl
set_option maxRecDepth 65536 in
theorem w_case : (Jvm.Cond.and given_1 narrow_1).before args0 about1 = true := by decide +kernel
theorem w_applies : (headSpec (Jvm.Cond.code x code maxLocals ret :: tables_1) room_1).applies x e0.platform about1 = true :=
  (Spec.applies_iff w_frames).mpr ⟨w_running, w_runnable, w_alone, w_named, w_hears, w_ripe, w_room, w_tables⟩
theorem atStart : AtStart classFile x code maxLocals ret World_1 tables_1 room_1 Calls_1 rest_1 Pre_1 launch0 p0 e0 about1 theMethod args0 below0 :=
  ⟨lists_1, trivial, launch0.admits_env _ _ _, launch0.least_env, fairChoices_fair.cas, fairChoices_fair.clock, w_frames, w_args, w_heap, w_applies, trivial, trivial, w_case⟩
end start1
theorem witness_1 : WitnessClaimed_1 := ⟨start1.p0, start1.e0, start1.about1, start1.theMethod, start1.args0, start1.below0, start1.atStart⟩
end Jvm.Pilot.@@N@@
