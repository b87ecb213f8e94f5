import JvmDerived
import JvmDerived.Pilot.@@N@@Statement
import JvmDerived.Pilot.@@N@@Code
set_option linter.unusedVariables false
set_option linter.unusedSimpArgs false
namespace Jvm.Pilot.@@N@@
open Jvm Jvm.ClassFile Sem Op Lib Jvm.Free Jvm.Stand Jvm.LawKit Jvm.RoadKit Bundle Jvm.Pilot.@@N@@.Jvm.D
def own_Fin (p : Program) (e : Env) (below : List Frame) (P : State → Outcome → Prop) (a : State) : Prop := ∃ t o, Steps p.tables e below a t ∧ t.status = .running ∧ Ended t below o ∧ P t o
theorem own_fin {p : Program} {e : Env} {below : List Frame} {P : State → Outcome → Prop} {a b : State} (k : ∀ t, Steps p.tables e below b t → Steps p.tables e below a t) (h : own_Fin p e below P b) : own_Fin p e below P a := by
  obtain ⟨t, o, s, r⟩ := h
  exact ⟨t, o, k t s, r⟩
theorem own_rw {T : State} {h : Heap} {a : Addr} {c : Cell} (e : T.heap = h) (q : h[a]? = some c) : T.heap[a]? = some c := by rw [e]; exact q
theorem own_StaKeep {Z : State} {h : Heap} {C n d : String} {v : Value} {n0 : Nat} (O : Old Z n0 h) (F : Sta Z Z.heap C n d v) : Sta Z h C n d v := F.ext O.2

theorem own_x (a b : Int64) : (a ^^^ b) = (0 : Int64) ↔ a = b := by
  constructor
  · intro h
    have h1 : a.toBitVec ^^^ b.toBitVec = 0#64 := congrArg Int64.toBitVec h
    apply Int64.toBitVec_inj.mp
    have h2 : (a.toBitVec ^^^ b.toBitVec) ^^^ b.toBitVec = 0#64 ^^^ b.toBitVec := by rw [h1]
    rw [BitVec.xor_assoc, BitVec.xor_self, BitVec.xor_zero, BitVec.zero_xor] at h2
    exact h2
  · rintro rfl
    apply Int64.toBitVec_inj.mp
    show a.toBitVec ^^^ a.toBitVec = 0#64
    exact BitVec.xor_self
theorem own_d2_0 : decode jdk_30_method_1_code 0 = .ok (.aload_n 0, 1) := by decide +kernel
theorem own_d2_1 : decode jdk_30_method_1_code 1 = .ok (.invokespecial 1, 3) := by decide +kernel
theorem own_d2_4 : decode jdk_30_method_1_code 4 = .ok (.return_, 1) := by decide +kernel
theorem own_pn_java_lang_Record : plainName "java/lang/Record" = true := by first | (simp [plainName, overriddenIn]; done) | decide +kernel
theorem own_ef_rm_rec (mM : MethodId) (x0 : Addr) : entryFrame mM #[(.ref x0)] 1 = mkF mM 0 #[.val (.ref x0)] [] := by first | (simp [entryFrame, mkF, argsToLocals, Value.category]; done) | rfl
def Q_rm_rec (Z : State) (a : Addr) (h0 : Heap) (n0 : Nat) (vV : Option Value) (hH : Heap) (lA : List Loc) : Prop := vV = none ∧ Fr n0 lA ∧ (hH = h0)
set_option maxRecDepth 65536 in
set_option maxHeartbeats 40000000 in
theorem rm_rec (lL : Launch) (Z : State) (a0 : Array Value) (hw : ∀ d ∈ tables_1, d.before a0 Z = true) (ws : List Jvm.Cond) (a : Addr) (h0 : Heap) (n0 : Nat) (Z0 : n0 ≤ h0.size) :
    MetFree lL (⟨"java/lang/Record", "<init>", "()V"⟩ : MethodName) (head1 (Jvm.Cond.code (⟨"java/lang/Record", "<init>", "()V"⟩ : MethodName) jdk_30_method_1_code 1 none :: ws) ({ frames := 1, cells := 0, slots := 0, locals := 12 } : Room)) (fun aA uU => aA = #[(.ref a)] ∧ Z.Warmed39 uU.vm ∧ uU.heap = h0) (fun _ _ _ _ _ => True) (fun _ uU oO uU' => ∃ vV lA, oO = .returned vV ∧ Q_rm_rec Z a h0 n0 vV uU'.heap lA ∧ FrameEnd uU oO uU' lA ({ frames := 1, cells := 0, slots := 0, locals := 12 } : Room).cells ({ frames := 1, cells := 0, slots := 0, locals := 12 } : Room).slots) := by
  refine MetFree.of_bodySF (plainFor_of_name own_pn_java_lang_Record) hisR ?_
  intro pP eE sS mM args below meth cC s₁ Bd hml0 hP hK
  obtain ⟨rfl, hZ, hh⟩ := hP
  have hx := Bd.exec
  have hby := Bd.bytes
  have hml : cC.maxLocals = 1 := hml0
  have hown : sS.vm.findClass "java/lang/Record" = some mM.cls := findClass_of_methodNamed Bd.named
  have hnm := (name_of_methodNamed Bd.named Bd.method).1
  have X0 : Stand pP lL eE ({ frames := 1, cells := 0, slots := 0, locals := 12 } : Room) sS mM #[(.ref a)] below meth cC s₁ [] 0 0 := Stand.of_body Bd
  have e0 : s₁.heap = h0 := by rw [← hh, Bd.state]; rfl
  have N0 := Fr.nil n0
  have K0 := Keep.refl h0 ([] : List Addr)
  show own_Fin pP eE below (fun tT oO => ∃ vV lA, oO = .returned vV ∧ Q_rm_rec Z a h0 n0 vV tT.heap lA ∧ FrameEnd sS oO tT lA ({ frames := 1, cells := 0, slots := 0, locals := 12 } : Room).cells ({ frames := 1, cells := 0, slots := 0, locals := 12 } : Room).slots) (s₁.setTop (entryFrame mM #[(.ref a)] 1))
  refine own_fin (b := s₁.setTop (mkF mM 0 #[.val (.ref a)] [])) (fun tT kK => castTop (own_ef_rm_rec mM a) kK) ?_
  refine own_fin (b := s₁.setTop (mkF mM 1 #[.val (.ref a)] [(.ref a)])) (fun tT kK => ?_) ?_
  · show Steps pP.tables eE below (s₁.setTop (mkF mM 0 #[.val (.ref a)] [])) tT
    refine XS.aloadN X0.here hx rfl (Jvm.hb hby own_d2_0) rfl rfl ?_
    show Steps pP.tables eE below (s₁.setTop (mkF mM 1 #[.val (.ref a)] [(.ref a)])) tT
    exact kK
  obtain ⟨T1_, X1_, e1_, st1_⟩ := initO X0 hx hZ hown (hw _ (List.mem_of_getElem? (i := 13) rfl)) (hw _ (List.mem_of_getElem? (i := 14) rfl)) (hw _ (List.mem_of_getElem? (i := 15) rfl)) e0 (g := (mkF mM 1 #[.val (.ref a)] [(.ref a)])) rfl (by rw [hml]; rfl) rfl (Jvm.hb hby own_d2_1) (by decide) (W := 0) (by show 2 * 0 + _ ≤ _; exact Nat.le_of_eq rfl) (by decide)
  refine own_fin st1_ ?_
  show own_Fin pP eE below _ (T1_.setTop (mkF mM 4 #[.val (.ref a)] []))
  obtain ⟨fs, hr, hrun, hended, hW, hsame⟩ := X1_.leave (v := none) (fun _ => rfl)
  refine ⟨_, _, ?_, hrun, hended, _, _, rfl, ?_, ⟨_, rfl⟩, hW, hsame.mono (by decide) (by decide)⟩
  · show Steps pP.tables eE below (T1_.setTop (mkF mM 4 #[.val (.ref a)] [])) _
    exact X1_.returnOut hx Bd.returns (Jvm.hb hby own_d2_4) hr
  · show Q_rm_rec Z a h0 n0 _ T1_.heap _
    rw [e1_]
    exact ⟨rfl, N0, rfl⟩
theorem own_d1_0 : decode prog_25_method_1_code 0 = .ok (.aload_n 0, 1) := by decide +kernel
theorem own_d1_1 : decode prog_25_method_1_code 1 = .ok (.invokespecial 1, 3) := by decide +kernel
theorem own_pd0 : parseMethodDescriptor "()V" = some ⟨[], none⟩ := by decide +kernel
theorem own_d1_4 : decode prog_25_method_1_code 4 = .ok (.aload_n 0, 1) := by decide +kernel
theorem own_d1_5 : decode prog_25_method_1_code 5 = .ok (.lload_n 1, 1) := by decide +kernel
theorem own_d1_6 : decode prog_25_method_1_code 6 = .ok (.putfield 7, 3) := by decide +kernel
theorem own_d1_9 : decode prog_25_method_1_code 9 = .ok (.aload_n 0, 1) := by decide +kernel
theorem own_d1_10 : decode prog_25_method_1_code 10 = .ok (.dload_n 3, 1) := by decide +kernel
theorem own_d1_11 : decode prog_25_method_1_code 11 = .ok (.putfield 13, 3) := by decide +kernel
theorem own_d1_14 : decode prog_25_method_1_code 14 = .ok (.aload_n 0, 1) := by decide +kernel
theorem own_d1_15 : decode prog_25_method_1_code 15 = .ok (.lload 5, 2) := by decide +kernel
theorem own_d1_17 : decode prog_25_method_1_code 17 = .ok (.putfield 17, 3) := by decide +kernel
theorem own_d1_20 : decode prog_25_method_1_code 20 = .ok (.aload_n 0, 1) := by decide +kernel
theorem own_d1_21 : decode prog_25_method_1_code 21 = .ok (.dload 7, 2) := by decide +kernel
theorem own_d1_23 : decode prog_25_method_1_code 23 = .ok (.putfield 20, 3) := by decide +kernel
theorem own_d1_26 : decode prog_25_method_1_code 26 = .ok (.aload_n 0, 1) := by decide +kernel
theorem own_d1_27 : decode prog_25_method_1_code 27 = .ok (.dload 9, 2) := by decide +kernel
theorem own_d1_29 : decode prog_25_method_1_code 29 = .ok (.putfield 23, 3) := by decide +kernel
theorem own_d1_32 : decode prog_25_method_1_code 32 = .ok (.return_, 1) := by decide +kernel
theorem own_pn_com_example_needlework_needlework_cli_Bench_Result : plainName "com/example/needlework/needlework/cli/Bench$Result" = true := by first | (simp [plainName, overriddenIn]; done) | decide +kernel
theorem own_ef_rm_init (mM : MethodId) (x0 : Addr) (x1 : Int64) (x2 : UInt64) (x3 : Int64) (x4 : UInt64) (x5 : UInt64) : entryFrame mM #[(.ref x0), (.long x1), (.double x2), (.long x3), (.double x4), (.double x5)] 11 = mkF mM 0 #[.val (.ref x0), .val (.long x1), .second, .val (.double x2), .second, .val (.long x3), .second, .val (.double x4), .second, .val (.double x5), .second] [] := by first | (simp [entryFrame, mkF, argsToLocals, Value.category]; done) | rfl
def Q_rm_init (Z : State) (a : Addr) (q1 : Int64) (d2 : UInt64) (q3 : Int64) (d4 : UInt64) (d5 : UInt64) (h0 : Heap) (n0 : Nat) (vV : Option Value) (hH : Heap) (lA : List Loc) : Prop := vV = none ∧ Fr n0 lA ∧ (Keep h0 hH [a]) ∧ (Exa Z hH a "com/example/needlework/needlework/cli/Bench$Result") ∧ (Fld Z hH a "com/example/needlework/needlework/cli/Bench$Result" "needleworkCount" "J" (.long q1)) ∧ (Fld Z hH a "com/example/needlework/needlework/cli/Bench$Result" "indexOfCount" "J" (.long q3))
set_option maxRecDepth 65536 in
set_option maxHeartbeats 40000000 in
theorem rm_init (lL : Launch) (Z : State) (a0 : Array Value) (hw : ∀ d ∈ tables_1, d.before a0 Z = true) (ws : List Jvm.Cond) (a : Addr) (q1 : Int64) (d2 : UInt64) (q3 : Int64) (d4 : UInt64) (d5 : UInt64) (h0 : Heap) (n0 : Nat) (Z0 : n0 ≤ h0.size) (Ea : Exa Z h0 a "com/example/needlework/needlework/cli/Bench$Result") (F0 : Fld Z h0 a "com/example/needlework/needlework/cli/Bench$Result" "needleworkCount" "J" (.long (0 : Int64))) (F1 : Fld Z h0 a "com/example/needlework/needlework/cli/Bench$Result" "needleworkMillis" "D" (.double (0 : UInt64))) (F2 : Fld Z h0 a "com/example/needlework/needlework/cli/Bench$Result" "indexOfCount" "J" (.long (0 : Int64))) (F3 : Fld Z h0 a "com/example/needlework/needlework/cli/Bench$Result" "indexOfMillis" "D" (.double (0 : UInt64))) (F4 : Fld Z h0 a "com/example/needlework/needlework/cli/Bench$Result" "ratio" "D" (.double (0 : UInt64))) (ga : n0 ≤ a) :
    MetFree lL (⟨"com/example/needlework/needlework/cli/Bench$Result", "<init>", "(JDJDD)V"⟩ : MethodName) (head1 (Jvm.Cond.code (⟨"com/example/needlework/needlework/cli/Bench$Result", "<init>", "(JDJDD)V"⟩ : MethodName) prog_25_method_1_code 11 none :: ws) ({ frames := 2, cells := 0, slots := 0, locals := 24 } : Room)) (fun aA uU => aA = #[(.ref a), (.long q1), (.double d2), (.long q3), (.double d4), (.double d5)] ∧ Z.Warmed39 uU.vm ∧ uU.heap = h0) (fun _ _ _ _ _ => True) (fun _ uU oO uU' => ∃ vV lA, oO = .returned vV ∧ Q_rm_init Z a q1 d2 q3 d4 d5 h0 n0 vV uU'.heap lA ∧ FrameEnd uU oO uU' lA ({ frames := 2, cells := 0, slots := 0, locals := 24 } : Room).cells ({ frames := 2, cells := 0, slots := 0, locals := 24 } : Room).slots) := by
  refine MetFree.of_bodySF (plainFor_of_name own_pn_com_example_needlework_needlework_cli_Bench_Result) hisR ?_
  intro pP eE sS mM args below meth cC s₁ Bd hml0 hP hK
  obtain ⟨rfl, hZ, hh⟩ := hP
  have hx := Bd.exec
  have hby := Bd.bytes
  have hml : cC.maxLocals = 11 := hml0
  have hown : sS.vm.findClass "com/example/needlework/needlework/cli/Bench$Result" = some mM.cls := findClass_of_methodNamed Bd.named
  have hnm := (name_of_methodNamed Bd.named Bd.method).1
  have X0 : Stand pP lL eE ({ frames := 2, cells := 0, slots := 0, locals := 24 } : Room) sS mM #[(.ref a), (.long q1), (.double d2), (.long q3), (.double d4), (.double d5)] below meth cC s₁ [] 0 0 := Stand.of_body Bd
  have e0 : s₁.heap = h0 := by rw [← hh, Bd.state]; rfl
  have N0 := Fr.nil n0
  have K0 := Keep.refl h0 [a]
  show own_Fin pP eE below (fun tT oO => ∃ vV lA, oO = .returned vV ∧ Q_rm_init Z a q1 d2 q3 d4 d5 h0 n0 vV tT.heap lA ∧ FrameEnd sS oO tT lA ({ frames := 2, cells := 0, slots := 0, locals := 24 } : Room).cells ({ frames := 2, cells := 0, slots := 0, locals := 24 } : Room).slots) (s₁.setTop (entryFrame mM #[(.ref a), (.long q1), (.double d2), (.long q3), (.double d4), (.double d5)] 11))
  refine own_fin (b := s₁.setTop (mkF mM 0 #[.val (.ref a), .val (.long q1), .second, .val (.double d2), .second, .val (.long q3), .second, .val (.double d4), .second, .val (.double d5), .second] [])) (fun tT kK => castTop (own_ef_rm_init mM a q1 d2 q3 d4 d5) kK) ?_
  refine own_fin (b := s₁.setTop (mkF mM 1 #[.val (.ref a), .val (.long q1), .second, .val (.double d2), .second, .val (.long q3), .second, .val (.double d4), .second, .val (.double d5), .second] [(.ref a)])) (fun tT kK => ?_) ?_
  · show Steps pP.tables eE below (s₁.setTop (mkF mM 0 #[.val (.ref a), .val (.long q1), .second, .val (.double d2), .second, .val (.long q3), .second, .val (.double d4), .second, .val (.double d5), .second] [])) tT
    refine XS.aloadN X0.here hx rfl (Jvm.hb hby own_d1_0) rfl rfl ?_
    show Steps pP.tables eE below (s₁.setTop (mkF mM 1 #[.val (.ref a), .val (.long q1), .second, .val (.double d2), .second, .val (.long q3), .second, .val (.double d4), .second, .val (.double d5), .second] [(.ref a)])) tT
    exact kK
  obtain ⟨_, _, ⟨T1_, L1_, k1_, n1_⟩, -, X1_, ⟨Lc1_, hQ1_, l1_, y1_, z1_⟩, st1_⟩ := X0.specialBack hx (y := (⟨"java/lang/Record", "<init>", "()V"⟩ : MethodName)) rfl hown (mvT hZ (hw _ (List.mem_of_getElem? (i := 8) rfl))) (mvT hZ (hw _ (List.mem_of_getElem? (i := 9) rfl))) (mvT hZ (hw _ (List.mem_of_getElem? (i := 12) rfl))) (by decide) (backOf (W := 0) (rm_rec lL Z a0 hw [] a h0 n0 (Nat.le_trans Z0 K0.1) ) hZ (hw _ (List.mem_of_getElem? (i := 12) rfl)) (hw _ (List.mem_of_getElem? (i := 11) rfl)) (by decide) (by decide)) (g := (mkF mM 1 #[.val (.ref a), .val (.long q1), .second, .val (.double d2), .second, .val (.long q3), .second, .val (.double d4), .second, .val (.double d5), .second] [(.ref a)])) rfl (by rw [hml]; rfl) (Steps.refl _) (a := a) (argsL := []) (rest := []) (lenOf own_pd0 rfl) rfl (by show 2 * 0 + _ ≤ _; exact Nat.le_of_eq rfl) (Jvm.hb hby own_d1_1) (fun _ _ => ⟨rfl, e0, (by decide : 0 + 0 ≤ _), (by decide : 0 + 0 ≤ _)⟩)
  dsimp only [Pt.U, Pt.locs, Pt.cells, Pt.slots] at X1_ l1_ y1_ z1_ st1_ hQ1_
  subst l1_ y1_ z1_
  obtain ⟨rfl, N1_q, p1__0⟩ := hQ1_
  have N1_ := Fr.app N0 N1_q
  refine own_fin (fun tT kK => st1_.trans kK) ?_
  show own_Fin pP eE below _ (T1_.setTop (mkF mM 4 #[.val (.ref a), .val (.long q1), .second, .val (.double d2), .second, .val (.long q3), .second, .val (.double d4), .second, .val (.double d5), .second] []))
  refine own_fin (b := T1_.setTop (mkF mM 6 #[.val (.ref a), .val (.long q1), .second, .val (.double d2), .second, .val (.long q3), .second, .val (.double d4), .second, .val (.double d5), .second] [(.long q1), (.ref a)])) (fun tT kK => ?_) ?_
  · show Steps pP.tables eE below (T1_.setTop (mkF mM 4 #[.val (.ref a), .val (.long q1), .second, .val (.double d2), .second, .val (.long q3), .second, .val (.double d4), .second, .val (.double d5), .second] [])) tT
    refine XS.aloadN X1_.here hx rfl (Jvm.hb hby own_d1_4) rfl rfl ?_
    show Steps pP.tables eE below (T1_.setTop (mkF mM 5 #[.val (.ref a), .val (.long q1), .second, .val (.double d2), .second, .val (.long q3), .second, .val (.double d4), .second, .val (.double d5), .second] [(.ref a)])) tT
    refine XS.lloadN X1_.here hx rfl (Jvm.hb hby own_d1_5) rfl ?_
    show Steps pP.tables eE below (T1_.setTop (mkF mM 6 #[.val (.ref a), .val (.long q1), .second, .val (.double d2), .second, .val (.long q3), .second, .val (.double d4), .second, .val (.double d5), .second] [(.long q1), (.ref a)])) tT
    exact kK
  obtain ⟨T2_, h2_, X2_, e2_, W2_, st2_⟩ := putF X1_ hx hZ hown (host := "") (Or.inl (hw _ (List.mem_of_getElem? (i := 16) rfl))) Via.refl p1__0 F0 Ea (Or.inr ⟨(hw _ (List.mem_of_getElem? (i := 17) rfl)), rfl, hnm⟩) (hw _ (List.mem_of_getElem? (i := 3) rfl)) (ty := .long) (by decide) rfl rfl (g := (mkF mM 6 #[.val (.ref a), .val (.long q1), .second, .val (.double d2), .second, .val (.long q3), .second, .val (.double d4), .second, .val (.double d5), .second] [(.long q1), (.ref a)])) rfl rfl (Jvm.hb hby own_d1_6)
  have Fw2_ := F0.same W2_
  have fc3_ := Ea.wr W2_
  have fc4_ := F1.other W2_ (Or.inr (slot_ne (Or.inr (hw _ (List.mem_of_getElem? (i := 19) rfl))) (Or.inr (hw _ (List.mem_of_getElem? (i := 17) rfl))) (by decide) (t := .double) (t' := .long) (by decide) (by decide)))
  have fc5_ := F2.other W2_ (Or.inr (slot_ne (Or.inr (hw _ (List.mem_of_getElem? (i := 21) rfl))) (Or.inr (hw _ (List.mem_of_getElem? (i := 17) rfl))) (by decide) (t := .long) (t' := .long) (by decide) (by decide)))
  have fc6_ := F3.other W2_ (Or.inr (slot_ne (Or.inr (hw _ (List.mem_of_getElem? (i := 23) rfl))) (Or.inr (hw _ (List.mem_of_getElem? (i := 17) rfl))) (by decide) (t := .double) (t' := .long) (by decide) (by decide)))
  have fc7_ := F4.other W2_ (Or.inr (slot_ne (Or.inr (hw _ (List.mem_of_getElem? (i := 25) rfl))) (Or.inr (hw _ (List.mem_of_getElem? (i := 17) rfl))) (by decide) (t := .double) (t' := .long) (by decide) (by decide)))
  have K2_ := K0.wr W2_ (Or.inl (List.mem_of_getElem? (i := 0) rfl))
  have N2_ := Fr.snoc X2_ N1_ ga
  refine own_fin st2_ ?_
  show own_Fin pP eE below _ (T2_.setTop (mkF mM 9 #[.val (.ref a), .val (.long q1), .second, .val (.double d2), .second, .val (.long q3), .second, .val (.double d4), .second, .val (.double d5), .second] []))
  refine own_fin (b := T2_.setTop (mkF mM 11 #[.val (.ref a), .val (.long q1), .second, .val (.double d2), .second, .val (.long q3), .second, .val (.double d4), .second, .val (.double d5), .second] [(.double d2), (.ref a)])) (fun tT kK => ?_) ?_
  · show Steps pP.tables eE below (T2_.setTop (mkF mM 9 #[.val (.ref a), .val (.long q1), .second, .val (.double d2), .second, .val (.long q3), .second, .val (.double d4), .second, .val (.double d5), .second] [])) tT
    refine XS.aloadN X2_.here hx rfl (Jvm.hb hby own_d1_9) rfl rfl ?_
    show Steps pP.tables eE below (T2_.setTop (mkF mM 10 #[.val (.ref a), .val (.long q1), .second, .val (.double d2), .second, .val (.long q3), .second, .val (.double d4), .second, .val (.double d5), .second] [(.ref a)])) tT
    refine XS.dloadN X2_.here hx rfl (Jvm.hb hby own_d1_10) rfl ?_
    show Steps pP.tables eE below (T2_.setTop (mkF mM 11 #[.val (.ref a), .val (.long q1), .second, .val (.double d2), .second, .val (.long q3), .second, .val (.double d4), .second, .val (.double d5), .second] [(.double d2), (.ref a)])) tT
    exact kK
  obtain ⟨T8_, h8_, X8_, e8_, W8_, st8_⟩ := putF X2_ hx hZ hown (host := "") (Or.inl (hw _ (List.mem_of_getElem? (i := 18) rfl))) Via.refl e2_ fc4_ fc3_ (Or.inr ⟨(hw _ (List.mem_of_getElem? (i := 19) rfl)), rfl, hnm⟩) (hw _ (List.mem_of_getElem? (i := 3) rfl)) (ty := .double) (by decide) rfl rfl (g := (mkF mM 11 #[.val (.ref a), .val (.long q1), .second, .val (.double d2), .second, .val (.long q3), .second, .val (.double d4), .second, .val (.double d5), .second] [(.double d2), (.ref a)])) rfl rfl (Jvm.hb hby own_d1_11)
  have Fw8_ := fc4_.same W8_
  have fc9_ := fc3_.wr W8_
  have fc10_ := Fw2_.other W8_ (Or.inr (slot_ne (Or.inr (hw _ (List.mem_of_getElem? (i := 17) rfl))) (Or.inr (hw _ (List.mem_of_getElem? (i := 19) rfl))) (by decide) (t := .long) (t' := .double) (by decide) (by decide)))
  have fc11_ := fc5_.other W8_ (Or.inr (slot_ne (Or.inr (hw _ (List.mem_of_getElem? (i := 21) rfl))) (Or.inr (hw _ (List.mem_of_getElem? (i := 19) rfl))) (by decide) (t := .long) (t' := .double) (by decide) (by decide)))
  have fc12_ := fc6_.other W8_ (Or.inr (slot_ne (Or.inr (hw _ (List.mem_of_getElem? (i := 23) rfl))) (Or.inr (hw _ (List.mem_of_getElem? (i := 19) rfl))) (by decide) (t := .double) (t' := .double) (by decide) (by decide)))
  have fc13_ := fc7_.other W8_ (Or.inr (slot_ne (Or.inr (hw _ (List.mem_of_getElem? (i := 25) rfl))) (Or.inr (hw _ (List.mem_of_getElem? (i := 19) rfl))) (by decide) (t := .double) (t' := .double) (by decide) (by decide)))
  have K8_ := K2_.wr W8_ (Or.inl (List.mem_of_getElem? (i := 0) rfl))
  have N8_ := Fr.snoc X8_ N2_ ga
  refine own_fin st8_ ?_
  show own_Fin pP eE below _ (T8_.setTop (mkF mM 14 #[.val (.ref a), .val (.long q1), .second, .val (.double d2), .second, .val (.long q3), .second, .val (.double d4), .second, .val (.double d5), .second] []))
  refine own_fin (b := T8_.setTop (mkF mM 17 #[.val (.ref a), .val (.long q1), .second, .val (.double d2), .second, .val (.long q3), .second, .val (.double d4), .second, .val (.double d5), .second] [(.long q3), (.ref a)])) (fun tT kK => ?_) ?_
  · show Steps pP.tables eE below (T8_.setTop (mkF mM 14 #[.val (.ref a), .val (.long q1), .second, .val (.double d2), .second, .val (.long q3), .second, .val (.double d4), .second, .val (.double d5), .second] [])) tT
    refine XS.aloadN X8_.here hx rfl (Jvm.hb hby own_d1_14) rfl rfl ?_
    show Steps pP.tables eE below (T8_.setTop (mkF mM 15 #[.val (.ref a), .val (.long q1), .second, .val (.double d2), .second, .val (.long q3), .second, .val (.double d4), .second, .val (.double d5), .second] [(.ref a)])) tT
    refine XS.lload X8_.here hx rfl (Jvm.hb hby own_d1_15) rfl ?_
    show Steps pP.tables eE below (T8_.setTop (mkF mM 17 #[.val (.ref a), .val (.long q1), .second, .val (.double d2), .second, .val (.long q3), .second, .val (.double d4), .second, .val (.double d5), .second] [(.long q3), (.ref a)])) tT
    exact kK
  obtain ⟨T14_, h14_, X14_, e14_, W14_, st14_⟩ := putF X8_ hx hZ hown (host := "") (Or.inl (hw _ (List.mem_of_getElem? (i := 20) rfl))) Via.refl e8_ fc11_ fc9_ (Or.inr ⟨(hw _ (List.mem_of_getElem? (i := 21) rfl)), rfl, hnm⟩) (hw _ (List.mem_of_getElem? (i := 3) rfl)) (ty := .long) (by decide) rfl rfl (g := (mkF mM 17 #[.val (.ref a), .val (.long q1), .second, .val (.double d2), .second, .val (.long q3), .second, .val (.double d4), .second, .val (.double d5), .second] [(.long q3), (.ref a)])) rfl rfl (Jvm.hb hby own_d1_17)
  have Fw14_ := fc11_.same W14_
  have fc15_ := fc9_.wr W14_
  have fc16_ := fc10_.other W14_ (Or.inr (slot_ne (Or.inr (hw _ (List.mem_of_getElem? (i := 17) rfl))) (Or.inr (hw _ (List.mem_of_getElem? (i := 21) rfl))) (by decide) (t := .long) (t' := .long) (by decide) (by decide)))
  have fc17_ := Fw8_.other W14_ (Or.inr (slot_ne (Or.inr (hw _ (List.mem_of_getElem? (i := 19) rfl))) (Or.inr (hw _ (List.mem_of_getElem? (i := 21) rfl))) (by decide) (t := .double) (t' := .long) (by decide) (by decide)))
  have fc18_ := fc12_.other W14_ (Or.inr (slot_ne (Or.inr (hw _ (List.mem_of_getElem? (i := 23) rfl))) (Or.inr (hw _ (List.mem_of_getElem? (i := 21) rfl))) (by decide) (t := .double) (t' := .long) (by decide) (by decide)))
  have fc19_ := fc13_.other W14_ (Or.inr (slot_ne (Or.inr (hw _ (List.mem_of_getElem? (i := 25) rfl))) (Or.inr (hw _ (List.mem_of_getElem? (i := 21) rfl))) (by decide) (t := .double) (t' := .long) (by decide) (by decide)))
  have K14_ := K8_.wr W14_ (Or.inl (List.mem_of_getElem? (i := 0) rfl))
  have N14_ := Fr.snoc X14_ N8_ ga
  refine own_fin st14_ ?_
  show own_Fin pP eE below _ (T14_.setTop (mkF mM 20 #[.val (.ref a), .val (.long q1), .second, .val (.double d2), .second, .val (.long q3), .second, .val (.double d4), .second, .val (.double d5), .second] []))
  refine own_fin (b := T14_.setTop (mkF mM 23 #[.val (.ref a), .val (.long q1), .second, .val (.double d2), .second, .val (.long q3), .second, .val (.double d4), .second, .val (.double d5), .second] [(.double d4), (.ref a)])) (fun tT kK => ?_) ?_
  · show Steps pP.tables eE below (T14_.setTop (mkF mM 20 #[.val (.ref a), .val (.long q1), .second, .val (.double d2), .second, .val (.long q3), .second, .val (.double d4), .second, .val (.double d5), .second] [])) tT
    refine XS.aloadN X14_.here hx rfl (Jvm.hb hby own_d1_20) rfl rfl ?_
    show Steps pP.tables eE below (T14_.setTop (mkF mM 21 #[.val (.ref a), .val (.long q1), .second, .val (.double d2), .second, .val (.long q3), .second, .val (.double d4), .second, .val (.double d5), .second] [(.ref a)])) tT
    refine XS.dload X14_.here hx rfl (Jvm.hb hby own_d1_21) rfl ?_
    show Steps pP.tables eE below (T14_.setTop (mkF mM 23 #[.val (.ref a), .val (.long q1), .second, .val (.double d2), .second, .val (.long q3), .second, .val (.double d4), .second, .val (.double d5), .second] [(.double d4), (.ref a)])) tT
    exact kK
  obtain ⟨T20_, h20_, X20_, e20_, W20_, st20_⟩ := putF X14_ hx hZ hown (host := "") (Or.inl (hw _ (List.mem_of_getElem? (i := 22) rfl))) Via.refl e14_ fc18_ fc15_ (Or.inr ⟨(hw _ (List.mem_of_getElem? (i := 23) rfl)), rfl, hnm⟩) (hw _ (List.mem_of_getElem? (i := 3) rfl)) (ty := .double) (by decide) rfl rfl (g := (mkF mM 23 #[.val (.ref a), .val (.long q1), .second, .val (.double d2), .second, .val (.long q3), .second, .val (.double d4), .second, .val (.double d5), .second] [(.double d4), (.ref a)])) rfl rfl (Jvm.hb hby own_d1_23)
  have Fw20_ := fc18_.same W20_
  have fc21_ := fc15_.wr W20_
  have fc22_ := fc16_.other W20_ (Or.inr (slot_ne (Or.inr (hw _ (List.mem_of_getElem? (i := 17) rfl))) (Or.inr (hw _ (List.mem_of_getElem? (i := 23) rfl))) (by decide) (t := .long) (t' := .double) (by decide) (by decide)))
  have fc23_ := fc17_.other W20_ (Or.inr (slot_ne (Or.inr (hw _ (List.mem_of_getElem? (i := 19) rfl))) (Or.inr (hw _ (List.mem_of_getElem? (i := 23) rfl))) (by decide) (t := .double) (t' := .double) (by decide) (by decide)))
  have fc24_ := Fw14_.other W20_ (Or.inr (slot_ne (Or.inr (hw _ (List.mem_of_getElem? (i := 21) rfl))) (Or.inr (hw _ (List.mem_of_getElem? (i := 23) rfl))) (by decide) (t := .long) (t' := .double) (by decide) (by decide)))
  have fc25_ := fc19_.other W20_ (Or.inr (slot_ne (Or.inr (hw _ (List.mem_of_getElem? (i := 25) rfl))) (Or.inr (hw _ (List.mem_of_getElem? (i := 23) rfl))) (by decide) (t := .double) (t' := .double) (by decide) (by decide)))
  have K20_ := K14_.wr W20_ (Or.inl (List.mem_of_getElem? (i := 0) rfl))
  have N20_ := Fr.snoc X20_ N14_ ga
  refine own_fin st20_ ?_
  show own_Fin pP eE below _ (T20_.setTop (mkF mM 26 #[.val (.ref a), .val (.long q1), .second, .val (.double d2), .second, .val (.long q3), .second, .val (.double d4), .second, .val (.double d5), .second] []))
  refine own_fin (b := T20_.setTop (mkF mM 29 #[.val (.ref a), .val (.long q1), .second, .val (.double d2), .second, .val (.long q3), .second, .val (.double d4), .second, .val (.double d5), .second] [(.double d5), (.ref a)])) (fun tT kK => ?_) ?_
  · show Steps pP.tables eE below (T20_.setTop (mkF mM 26 #[.val (.ref a), .val (.long q1), .second, .val (.double d2), .second, .val (.long q3), .second, .val (.double d4), .second, .val (.double d5), .second] [])) tT
    refine XS.aloadN X20_.here hx rfl (Jvm.hb hby own_d1_26) rfl rfl ?_
    show Steps pP.tables eE below (T20_.setTop (mkF mM 27 #[.val (.ref a), .val (.long q1), .second, .val (.double d2), .second, .val (.long q3), .second, .val (.double d4), .second, .val (.double d5), .second] [(.ref a)])) tT
    refine XS.dload X20_.here hx rfl (Jvm.hb hby own_d1_27) rfl ?_
    show Steps pP.tables eE below (T20_.setTop (mkF mM 29 #[.val (.ref a), .val (.long q1), .second, .val (.double d2), .second, .val (.long q3), .second, .val (.double d4), .second, .val (.double d5), .second] [(.double d5), (.ref a)])) tT
    exact kK
  obtain ⟨T26_, h26_, X26_, e26_, W26_, st26_⟩ := putF X20_ hx hZ hown (host := "") (Or.inl (hw _ (List.mem_of_getElem? (i := 24) rfl))) Via.refl e20_ fc25_ fc21_ (Or.inr ⟨(hw _ (List.mem_of_getElem? (i := 25) rfl)), rfl, hnm⟩) (hw _ (List.mem_of_getElem? (i := 3) rfl)) (ty := .double) (by decide) rfl rfl (g := (mkF mM 29 #[.val (.ref a), .val (.long q1), .second, .val (.double d2), .second, .val (.long q3), .second, .val (.double d4), .second, .val (.double d5), .second] [(.double d5), (.ref a)])) rfl rfl (Jvm.hb hby own_d1_29)
  have Fw26_ := fc25_.same W26_
  have fc27_ := fc21_.wr W26_
  have fc28_ := fc22_.other W26_ (Or.inr (slot_ne (Or.inr (hw _ (List.mem_of_getElem? (i := 17) rfl))) (Or.inr (hw _ (List.mem_of_getElem? (i := 25) rfl))) (by decide) (t := .long) (t' := .double) (by decide) (by decide)))
  have fc29_ := fc23_.other W26_ (Or.inr (slot_ne (Or.inr (hw _ (List.mem_of_getElem? (i := 19) rfl))) (Or.inr (hw _ (List.mem_of_getElem? (i := 25) rfl))) (by decide) (t := .double) (t' := .double) (by decide) (by decide)))
  have fc30_ := fc24_.other W26_ (Or.inr (slot_ne (Or.inr (hw _ (List.mem_of_getElem? (i := 21) rfl))) (Or.inr (hw _ (List.mem_of_getElem? (i := 25) rfl))) (by decide) (t := .long) (t' := .double) (by decide) (by decide)))
  have fc31_ := Fw20_.other W26_ (Or.inr (slot_ne (Or.inr (hw _ (List.mem_of_getElem? (i := 23) rfl))) (Or.inr (hw _ (List.mem_of_getElem? (i := 25) rfl))) (by decide) (t := .double) (t' := .double) (by decide) (by decide)))
  have K26_ := K20_.wr W26_ (Or.inl (List.mem_of_getElem? (i := 0) rfl))
  have N26_ := Fr.snoc X26_ N20_ ga
  refine own_fin st26_ ?_
  show own_Fin pP eE below _ (T26_.setTop (mkF mM 32 #[.val (.ref a), .val (.long q1), .second, .val (.double d2), .second, .val (.long q3), .second, .val (.double d4), .second, .val (.double d5), .second] []))
  obtain ⟨fs, hr, hrun, hended, hW, hsame⟩ := X26_.leave (v := none) (fun _ => rfl)
  refine ⟨_, _, ?_, hrun, hended, _, _, rfl, ?_, ⟨_, rfl⟩, hW, hsame.mono (by decide) (by decide)⟩
  · show Steps pP.tables eE below (T26_.setTop (mkF mM 32 #[.val (.ref a), .val (.long q1), .second, .val (.double d2), .second, .val (.long q3), .second, .val (.double d4), .second, .val (.double d5), .second] [])) _
    exact X26_.returnOut hx Bd.returns (Jvm.hb hby own_d1_32) hr
  · show Q_rm_init Z a q1 d2 q3 d4 d5 h0 n0 _ T26_.heap _
    rw [e26_]
    exact ⟨rfl, N26_, K26_, fc27_, fc28_, fc30_⟩
theorem own_d4_0 : decode prog_25_method_2_code 0 = .ok (.aload_n 0, 1) := by decide +kernel
theorem own_d4_1 : decode prog_25_method_2_code 1 = .ok (.getfield 7, 3) := by decide +kernel
theorem own_d4_4 : decode prog_25_method_2_code 4 = .ok (.aload_n 0, 1) := by decide +kernel
theorem own_d4_5 : decode prog_25_method_2_code 5 = .ok (.getfield 17, 3) := by decide +kernel
theorem own_d4_8 : decode prog_25_method_2_code 8 = .ok (.lcmp, 1) := by decide +kernel
theorem own_d4_9 : decode prog_25_method_2_code 9 = .ok (.ifCond .ne 7, 3) := by decide +kernel
theorem own_d4_12 : decode prog_25_method_2_code 12 = .ok (.iconst 1, 1) := by decide +kernel
theorem own_d4_13 : decode prog_25_method_2_code 13 = .ok (.goto 4, 3) := by decide +kernel
theorem own_d4_17 : decode prog_25_method_2_code 17 = .ok (.ireturn, 1) := by decide +kernel
theorem own_d4_16 : decode prog_25_method_2_code 16 = .ok (.iconst 0, 1) := by decide +kernel
theorem own_ef_rm_agree (mM : MethodId) (x0 : Addr) : entryFrame mM #[(.ref x0)] 1 = mkF mM 0 #[.val (.ref x0)] [] := by first | (simp [entryFrame, mkF, argsToLocals, Value.category]; done) | rfl
def Q_rm_agree (Z : State) (a : Addr) (q1 : Int64) (q3 : Int64) (h0 : Heap) (n0 : Nat) (vV : Option Value) (hH : Heap) (lA : List Loc) : Prop := vV = some (.int (if q1 = q3 then (1 : Int32) else (0 : Int32))) ∧ Fr n0 lA ∧ (hH = h0)
set_option maxRecDepth 65536 in
set_option maxHeartbeats 40000000 in
theorem rm_agree (lL : Launch) (Z : State) (a0 : Array Value) (hw : ∀ d ∈ tables_1, d.before a0 Z = true) (ws : List Jvm.Cond) (a : Addr) (q1 : Int64) (q3 : Int64) (h0 : Heap) (n0 : Nat) (Z0 : n0 ≤ h0.size) (F1 : Fld Z h0 a "com/example/needlework/needlework/cli/Bench$Result" "needleworkCount" "J" (.long q1)) (F3 : Fld Z h0 a "com/example/needlework/needlework/cli/Bench$Result" "indexOfCount" "J" (.long q3)) :
    MetFree lL (⟨"com/example/needlework/needlework/cli/Bench$Result", "agree", "()Z"⟩ : MethodName) (head1 (Jvm.Cond.code (⟨"com/example/needlework/needlework/cli/Bench$Result", "agree", "()Z"⟩ : MethodName) prog_25_method_2_code 1 (some .boolean) :: ws) ({ frames := 0, cells := 0, slots := 0, locals := 0 } : Room)) (fun aA uU => aA = #[(.ref a)] ∧ Z.Warmed39 uU.vm ∧ uU.heap = h0) (fun _ _ _ _ _ => True) (fun _ uU oO uU' => ∃ vV lA, oO = .returned vV ∧ Q_rm_agree Z a q1 q3 h0 n0 vV uU'.heap lA ∧ FrameEnd uU oO uU' lA ({ frames := 0, cells := 0, slots := 0, locals := 0 } : Room).cells ({ frames := 0, cells := 0, slots := 0, locals := 0 } : Room).slots) := by
  refine MetFree.of_bodySF (plainFor_of_name own_pn_com_example_needlework_needlework_cli_Bench_Result) hisR ?_
  intro pP eE sS mM args below meth cC s₁ Bd hml0 hP hK
  obtain ⟨rfl, hZ, hh⟩ := hP
  have hx := Bd.exec
  have hby := Bd.bytes
  have hml : cC.maxLocals = 1 := hml0
  have hown : sS.vm.findClass "com/example/needlework/needlework/cli/Bench$Result" = some mM.cls := findClass_of_methodNamed Bd.named
  have hnm := (name_of_methodNamed Bd.named Bd.method).1
  have X0 : Stand pP lL eE ({ frames := 0, cells := 0, slots := 0, locals := 0 } : Room) sS mM #[(.ref a)] below meth cC s₁ [] 0 0 := Stand.of_body Bd
  have e0 : s₁.heap = h0 := by rw [← hh, Bd.state]; rfl
  have N0 := Fr.nil n0
  have K0 := Keep.refl h0 ([] : List Addr)
  show own_Fin pP eE below (fun tT oO => ∃ vV lA, oO = .returned vV ∧ Q_rm_agree Z a q1 q3 h0 n0 vV tT.heap lA ∧ FrameEnd sS oO tT lA ({ frames := 0, cells := 0, slots := 0, locals := 0 } : Room).cells ({ frames := 0, cells := 0, slots := 0, locals := 0 } : Room).slots) (s₁.setTop (entryFrame mM #[(.ref a)] 1))
  refine own_fin (b := s₁.setTop (mkF mM 0 #[.val (.ref a)] [])) (fun tT kK => castTop (own_ef_rm_agree mM a) kK) ?_
  refine own_fin (b := s₁.setTop (mkF mM 1 #[.val (.ref a)] [(.ref a)])) (fun tT kK => ?_) ?_
  · show Steps pP.tables eE below (s₁.setTop (mkF mM 0 #[.val (.ref a)] [])) tT
    refine XS.aloadN X0.here hx rfl (Jvm.hb hby own_d4_0) rfl rfl ?_
    show Steps pP.tables eE below (s₁.setTop (mkF mM 1 #[.val (.ref a)] [(.ref a)])) tT
    exact kK
  obtain ⟨T1_, X1_, e1_, st1_⟩ := getF X0 hx hZ hown (host := "") (Or.inl (hw _ (List.mem_of_getElem? (i := 16) rfl))) Via.refl e0 F1 (g := (mkF mM 1 #[.val (.ref a)] [(.ref a)])) rfl rfl (Jvm.hb hby own_d4_1)
  refine own_fin st1_ ?_
  show own_Fin pP eE below _ (T1_.setTop (mkF mM 4 #[.val (.ref a)] [(.long q1)]))
  refine own_fin (b := T1_.setTop (mkF mM 5 #[.val (.ref a)] [(.ref a), (.long q1)])) (fun tT kK => ?_) ?_
  · show Steps pP.tables eE below (T1_.setTop (mkF mM 4 #[.val (.ref a)] [(.long q1)])) tT
    refine XS.aloadN X1_.here hx rfl (Jvm.hb hby own_d4_4) rfl rfl ?_
    show Steps pP.tables eE below (T1_.setTop (mkF mM 5 #[.val (.ref a)] [(.ref a), (.long q1)])) tT
    exact kK
  obtain ⟨T2_, X2_, e2_, st2_⟩ := getF X1_ hx hZ hown (host := "") (Or.inl (hw _ (List.mem_of_getElem? (i := 20) rfl))) Via.refl e1_ F3 (g := (mkF mM 5 #[.val (.ref a)] [(.ref a), (.long q1)])) rfl rfl (Jvm.hb hby own_d4_5)
  refine own_fin st2_ ?_
  show own_Fin pP eE below _ (T2_.setTop (mkF mM 8 #[.val (.ref a)] [(.long q3), (.long q1)]))
  refine own_fin (b := T2_.setTop (mkF mM 9 #[.val (.ref a)] [(.int (lcmpW q1 q3))])) (fun tT kK => ?_) ?_
  · show Steps pP.tables eE below (T2_.setTop (mkF mM 8 #[.val (.ref a)] [(.long q3), (.long q1)])) tT
    refine XS.lcmp X2_.here hx rfl (Jvm.hb hby own_d4_8) rfl ?_
    show Steps pP.tables eE below (T2_.setTop (mkF mM 9 #[.val (.ref a)] [(.int (lcmpW q1 q3))])) tT
    exact kK
  by_cases hc9_3_ : q1 = q3
  · refine own_fin (b := T2_.setTop (mkF mM 17 #[.val (.ref a)] [(.int (1 : Int32))])) (fun tT kK => ?_) ?_
    · show Steps pP.tables eE below (T2_.setTop (mkF mM 9 #[.val (.ref a)] [(.int (lcmpW q1 q3))])) tT
      refine XS.ifNo X2_.here hx rfl (Jvm.hb hby own_d4_9) rfl ((if0 _ _).trans (teq ((lw_eq q1 q3).mpr (hc9_3_ : q1 = q3))).2) ?_
      show Steps pP.tables eE below (T2_.setTop (mkF mM 12 #[.val (.ref a)] [])) tT
      refine XS.iconst X2_.here hx rfl (Jvm.hb hby own_d4_12) ?_
      show Steps pP.tables eE below (T2_.setTop (mkF mM 13 #[.val (.ref a)] [(.int (1 : Int32))])) tT
      refine XS.goto X2_.here hx rfl (pc0 := 13) (pc' := 17) rfl (Jvm.hb hby own_d4_13) (by decide) (by decide) ?_
      show Steps pP.tables eE below (T2_.setTop (mkF mM 17 #[.val (.ref a)] [(.int (1 : Int32))])) tT
      exact kK
    obtain ⟨fs, hr, hrun, hended, hW, hsame⟩ := X2_.leave (v := some (.int (1 : Int32))) (fun h => by rw [Bd.returns] at h; cases h)
    refine ⟨_, _, ?_, hrun, hended, _, _, rfl, ?_, ⟨_, rfl⟩, hW, hsame.mono (by decide) (by decide)⟩
    · show Steps pP.tables eE below (T2_.setTop (mkF mM 17 #[.val (.ref a)] [(.int (1 : Int32))])) _
      exact retN X2_ hx (t := .boolean) Bd.returns (by simp) (Jvm.hb hby own_d4_17) hr
    · show Q_rm_agree Z a q1 q3 h0 n0 _ T2_.heap _
      rw [e2_]
      exact ⟨by rw [if_pos hc9_3_], N0, rfl⟩
  · refine own_fin (b := T2_.setTop (mkF mM 17 #[.val (.ref a)] [(.int (0 : Int32))])) (fun tT kK => ?_) ?_
    · show Steps pP.tables eE below (T2_.setTop (mkF mM 9 #[.val (.ref a)] [(.int (lcmpW q1 q3))])) tT
      refine XS.ifYes X2_.here hx rfl (pc0 := 9) (pc' := 16) rfl (Jvm.hb hby own_d4_9) rfl ((if0 _ _).trans (feq (mt (lw_eq q1 q3).mp (hc9_3_ : ¬ (q1 = q3)))).2) (by decide) (by decide) ?_
      show Steps pP.tables eE below (T2_.setTop (mkF mM 16 #[.val (.ref a)] [])) tT
      refine XS.iconst X2_.here hx rfl (Jvm.hb hby own_d4_16) ?_
      show Steps pP.tables eE below (T2_.setTop (mkF mM 17 #[.val (.ref a)] [(.int (0 : Int32))])) tT
      exact kK
    obtain ⟨fs, hr, hrun, hended, hW, hsame⟩ := X2_.leave (v := some (.int (0 : Int32))) (fun h => by rw [Bd.returns] at h; cases h)
    refine ⟨_, _, ?_, hrun, hended, _, _, rfl, ?_, ⟨_, rfl⟩, hW, hsame.mono (by decide) (by decide)⟩
    · show Steps pP.tables eE below (T2_.setTop (mkF mM 17 #[.val (.ref a)] [(.int (0 : Int32))])) _
      exact retN X2_ hx (t := .boolean) Bd.returns (by simp) (Jvm.hb hby own_d4_17) hr
    · show Q_rm_agree Z a q1 q3 h0 n0 _ T2_.heap _
      rw [e2_]
      exact ⟨by rw [if_neg hc9_3_], N0, rfl⟩
theorem own_pd1 : parseMethodDescriptor "(JDJDD)V" = some ⟨[.long, .double, .long, .double, .double], none⟩ := by decide +kernel
theorem own_pd2 : parseMethodDescriptor "()Z" = some ⟨[], some .boolean⟩ := by decide +kernel
theorem own_pn_com_example_needlework_needlework_cli_ResultAgreePinLaw : plainName "com/example/needlework/needlework/cli/ResultAgreePinLaw" = true := by first | (simp [plainName, overriddenIn]; done) | decide +kernel
theorem own_ef_rm0 (mM : MethodId) (x0 : Int64) (x1 : Int64) (x2 : Int32) (x3 : Int32) (x4 : Int32) (x5 : Int32) : entryFrame mM #[(.long x0), (.long x1), (.int x2), (.int x3), (.int x4), (.int x5)] maxLocals = mkF mM 0 #[.val (.long x0), .second, .val (.long x1), .second, .val (.int x2), .val (.int x3), .val (.int x4), .val (.int x5), .unset, .unset, .unset, .unset, .unset, .unset, .unset, .unset, .unset, .unset, .unset] [] := by first | (simp [entryFrame, mkF, argsToLocals, Value.category, maxLocals]; done) | rfl
def Q_rm0 (Z : State) (q1 : Int64) (q2 : Int64) (p3 : Int32) (p4 : Int32) (p5 : Int32) (p6 : Int32) (h0 : Heap) (n0 : Nat) (vV : Option Value) (hH : Heap) (lA : List Loc) : Prop := vV = some (.int (1 : Int32)) ∧ Fr n0 lA
set_option maxRecDepth 65536 in
set_option maxHeartbeats 40000000 in
theorem rm0 (lL : Launch) (Z : State) (a0 : Array Value) (hw : ∀ d ∈ tables_1, d.before a0 Z = true) (ws : List Jvm.Cond) (q1 : Int64) (q2 : Int64) (p3 : Int32) (p4 : Int32) (p5 : Int32) (p6 : Int32) (h0 : Heap) (n0 : Nat) (Z0 : n0 ≤ h0.size) :
    MetFree lL x (head1 (Jvm.Cond.code x code maxLocals ret :: ws) room_1) (fun aA uU => aA = #[(.long q1), (.long q2), (.int p3), (.int p4), (.int p5), (.int p6)] ∧ Z.Warmed39 uU.vm ∧ uU.heap = h0) (fun _ _ _ _ _ => True) (fun _ uU oO uU' => ∃ vV lA, oO = .returned vV ∧ Q_rm0 Z q1 q2 p3 p4 p5 p6 h0 n0 vV uU'.heap lA ∧ FrameEnd uU oO uU' lA room_1.cells room_1.slots) := by
  refine MetFree.of_bodySF (plainFor_of_name own_pn_com_example_needlework_needlework_cli_ResultAgreePinLaw) hisR ?_
  intro pP eE sS mM args below meth cC s₁ Bd hml0 hP hK
  obtain ⟨rfl, hZ, hh⟩ := hP
  have hx := Bd.exec
  have hby := Bd.bytes
  have hml : cC.maxLocals = 19 := hml0
  have hown : sS.vm.findClass "com/example/needlework/needlework/cli/ResultAgreePinLaw" = some mM.cls := findClass_of_methodNamed Bd.named
  have hnm := (name_of_methodNamed Bd.named Bd.method).1
  have X0 : Stand pP lL eE room_1 sS mM #[(.long q1), (.long q2), (.int p3), (.int p4), (.int p5), (.int p6)] below meth cC s₁ [] 0 0 := Stand.of_body Bd
  have e0 : s₁.heap = h0 := by rw [← hh, Bd.state]; rfl
  have N0 := Fr.nil n0
  have K0 := Keep.refl h0 ([] : List Addr)
  show own_Fin pP eE below (fun tT oO => ∃ vV lA, oO = .returned vV ∧ Q_rm0 Z q1 q2 p3 p4 p5 p6 h0 n0 vV tT.heap lA ∧ FrameEnd sS oO tT lA room_1.cells room_1.slots) (s₁.setTop (entryFrame mM #[(.long q1), (.long q2), (.int p3), (.int p4), (.int p5), (.int p6)] maxLocals))
  refine own_fin (b := s₁.setTop (mkF mM 0 #[.val (.long q1), .second, .val (.long q2), .second, .val (.int p3), .val (.int p4), .val (.int p5), .val (.int p6), .unset, .unset, .unset, .unset, .unset, .unset, .unset, .unset, .unset, .unset, .unset] [])) (fun tT kK => castTop (own_ef_rm0 mM q1 q2 p3 p4 p5 p6) kK) ?_
  refine own_fin (b := s₁.setTop (mkF mM 4 #[.val (.long q1), .second, .val (.long q2), .second, .val (.int p3), .val (.int p4), .val (.int p5), .val (.int p6), .unset, .unset, .unset, .unset, .unset, .unset, .unset, .unset, .unset, .unset, .unset] [(.int (p3 &&& (1 : Int32)))])) (fun tT kK => ?_) ?_
  · show Steps pP.tables eE below (s₁.setTop (mkF mM 0 #[.val (.long q1), .second, .val (.long q2), .second, .val (.int p3), .val (.int p4), .val (.int p5), .val (.int p6), .unset, .unset, .unset, .unset, .unset, .unset, .unset, .unset, .unset, .unset, .unset] [])) tT
    refine XS.iload X0.here hx rfl (Jvm.hb hby at_0) rfl ?_
    show Steps pP.tables eE below (s₁.setTop (mkF mM 2 #[.val (.long q1), .second, .val (.long q2), .second, .val (.int p3), .val (.int p4), .val (.int p5), .val (.int p6), .unset, .unset, .unset, .unset, .unset, .unset, .unset, .unset, .unset, .unset, .unset] [(.int p3)])) tT
    refine XS.iconst X0.here hx rfl (Jvm.hb hby at_2) ?_
    show Steps pP.tables eE below (s₁.setTop (mkF mM 3 #[.val (.long q1), .second, .val (.long q2), .second, .val (.int p3), .val (.int p4), .val (.int p5), .val (.int p6), .unset, .unset, .unset, .unset, .unset, .unset, .unset, .unset, .unset, .unset, .unset] [(.int (1 : Int32)), (.int p3)])) tT
    refine XS.iand X0.here hx rfl (Jvm.hb hby at_3) rfl ?_
    show Steps pP.tables eE below (s₁.setTop (mkF mM 4 #[.val (.long q1), .second, .val (.long q2), .second, .val (.int p3), .val (.int p4), .val (.int p5), .val (.int p6), .unset, .unset, .unset, .unset, .unset, .unset, .unset, .unset, .unset, .unset, .unset] [(.int (p3 &&& (1 : Int32)))])) tT
    exact kK
  obtain ⟨b, st1_⟩ : ∃ b : Int64, ∀ tT, Steps pP.tables eE below (s₁.setTop (mkF mM 12 #[.val (.long q1), .second, .val (.long q2), .second, .val (.int p3), .val (.int p4), .val (.int p5), .val (.int p6), .unset, .unset, .unset, .unset, .unset, .unset, .unset, .unset, .unset, .unset, .unset] [(.long b)])) tT → Steps pP.tables eE below (s₁.setTop (mkF mM 4 #[.val (.long q1), .second, .val (.long q2), .second, .val (.int p3), .val (.int p4), .val (.int p5), .val (.int p6), .unset, .unset, .unset, .unset, .unset, .unset, .unset, .unset, .unset, .unset, .unset] [(.int (p3 &&& (1 : Int32)))])) tT := by
    by_cases hm1 : (p3 &&& (1 : Int32)) = (0 : Int32)
    · refine ⟨q2, fun tT kK => ?_⟩
      refine XS.ifYes X0.here hx rfl (pc0 := 4) (pc' := 11) rfl (Jvm.hb hby at_4) rfl ((if0 _ _).trans (teq (hm1 : (p3 &&& (1 : Int32)) = (0 : Int32))).1) (by decide) (by decide) ?_
      show Steps pP.tables eE below (s₁.setTop (mkF mM 11 #[.val (.long q1), .second, .val (.long q2), .second, .val (.int p3), .val (.int p4), .val (.int p5), .val (.int p6), .unset, .unset, .unset, .unset, .unset, .unset, .unset, .unset, .unset, .unset, .unset] [])) tT
      refine XS.lloadN X0.here hx rfl (Jvm.hb hby at_11) rfl ?_
      show Steps pP.tables eE below (s₁.setTop (mkF mM 12 #[.val (.long q1), .second, .val (.long q2), .second, .val (.int p3), .val (.int p4), .val (.int p5), .val (.int p6), .unset, .unset, .unset, .unset, .unset, .unset, .unset, .unset, .unset, .unset, .unset] [(.long q2)])) tT
      exact kK
    · refine ⟨q1, fun tT kK => ?_⟩
      refine XS.ifNo X0.here hx rfl (Jvm.hb hby at_4) rfl ((if0 _ _).trans (feq (hm1 : ¬ ((p3 &&& (1 : Int32)) = (0 : Int32)))).1) ?_
      show Steps pP.tables eE below (s₁.setTop (mkF mM 7 #[.val (.long q1), .second, .val (.long q2), .second, .val (.int p3), .val (.int p4), .val (.int p5), .val (.int p6), .unset, .unset, .unset, .unset, .unset, .unset, .unset, .unset, .unset, .unset, .unset] [])) tT
      refine XS.lloadN X0.here hx rfl (Jvm.hb hby at_7) rfl ?_
      show Steps pP.tables eE below (s₁.setTop (mkF mM 8 #[.val (.long q1), .second, .val (.long q2), .second, .val (.int p3), .val (.int p4), .val (.int p5), .val (.int p6), .unset, .unset, .unset, .unset, .unset, .unset, .unset, .unset, .unset, .unset, .unset] [(.long q1)])) tT
      refine XS.goto X0.here hx rfl (pc0 := 8) (pc' := 12) rfl (Jvm.hb hby at_8) (by decide) (by decide) ?_
      show Steps pP.tables eE below (s₁.setTop (mkF mM 12 #[.val (.long q1), .second, .val (.long q2), .second, .val (.int p3), .val (.int p4), .val (.int p5), .val (.int p6), .unset, .unset, .unset, .unset, .unset, .unset, .unset, .unset, .unset, .unset, .unset] [(.long q1)])) tT
      exact kK
  refine own_fin st1_ ?_
  show own_Fin pP eE below _ (s₁.setTop (mkF mM 12 #[.val (.long q1), .second, .val (.long q2), .second, .val (.int p3), .val (.int p4), .val (.int p5), .val (.int p6), .unset, .unset, .unset, .unset, .unset, .unset, .unset, .unset, .unset, .unset, .unset] [(.long b)]))
  refine own_fin (b := s₁.setTop (mkF mM 47 #[.val (.long q1), .second, .val (.long q2), .second, .val (.int p3), .val (.int p4), .val (.int p5), .val (.int p6), .val (.long b), .second, .val (.double (FP.i2d ((p4 &&& (65535 : Int32)) - (32768 : Int32)))), .second, .val (.double (FP.i2d ((p5 &&& (65535 : Int32)) - (32768 : Int32)))), .second, .val (.double (FP.i2d ((p6 &&& (65535 : Int32)) - (32768 : Int32)))), .second, .unset, .unset, .unset] [])) (fun tT kK => ?_) ?_
  · show Steps pP.tables eE below (s₁.setTop (mkF mM 12 #[.val (.long q1), .second, .val (.long q2), .second, .val (.int p3), .val (.int p4), .val (.int p5), .val (.int p6), .unset, .unset, .unset, .unset, .unset, .unset, .unset, .unset, .unset, .unset, .unset] [(.long b)])) tT
    refine XS.lstore X0.here hx rfl (Jvm.hb hby at_12) rfl (l' := #[.val (.long q1), .second, .val (.long q2), .second, .val (.int p3), .val (.int p4), .val (.int p5), .val (.int p6), .val (.long b), .second, .unset, .unset, .unset, .unset, .unset, .unset, .unset, .unset, .unset]) rfl ?_
    show Steps pP.tables eE below (s₁.setTop (mkF mM 14 #[.val (.long q1), .second, .val (.long q2), .second, .val (.int p3), .val (.int p4), .val (.int p5), .val (.int p6), .val (.long b), .second, .unset, .unset, .unset, .unset, .unset, .unset, .unset, .unset, .unset] [])) tT
    refine XS.iload X0.here hx rfl (Jvm.hb hby at_14) rfl ?_
    show Steps pP.tables eE below (s₁.setTop (mkF mM 16 #[.val (.long q1), .second, .val (.long q2), .second, .val (.int p3), .val (.int p4), .val (.int p5), .val (.int p6), .val (.long b), .second, .unset, .unset, .unset, .unset, .unset, .unset, .unset, .unset, .unset] [(.int p4)])) tT
    refine X0.ldcInt hx hown (mvT hZ (hw _ (List.mem_of_getElem? (i := 0) rfl))) (g := (mkF mM 16 #[.val (.long q1), .second, .val (.long q2), .second, .val (.int p3), .val (.int p4), .val (.int p5), .val (.int p6), .val (.long b), .second, .unset, .unset, .unset, .unset, .unset, .unset, .unset, .unset, .unset] [(.int p4)])) rfl (Jvm.hb hby at_16) _ ?_
    show Steps pP.tables eE below (s₁.setTop (mkF mM 18 #[.val (.long q1), .second, .val (.long q2), .second, .val (.int p3), .val (.int p4), .val (.int p5), .val (.int p6), .val (.long b), .second, .unset, .unset, .unset, .unset, .unset, .unset, .unset, .unset, .unset] [(.int (65535 : Int32)), (.int p4)])) tT
    refine XS.iand X0.here hx rfl (Jvm.hb hby at_18) rfl ?_
    show Steps pP.tables eE below (s₁.setTop (mkF mM 19 #[.val (.long q1), .second, .val (.long q2), .second, .val (.int p3), .val (.int p4), .val (.int p5), .val (.int p6), .val (.long b), .second, .unset, .unset, .unset, .unset, .unset, .unset, .unset, .unset, .unset] [(.int (p4 &&& (65535 : Int32)))])) tT
    refine X0.ldcInt hx hown (mvT hZ (hw _ (List.mem_of_getElem? (i := 1) rfl))) (g := (mkF mM 19 #[.val (.long q1), .second, .val (.long q2), .second, .val (.int p3), .val (.int p4), .val (.int p5), .val (.int p6), .val (.long b), .second, .unset, .unset, .unset, .unset, .unset, .unset, .unset, .unset, .unset] [(.int (p4 &&& (65535 : Int32)))])) rfl (Jvm.hb hby at_19) _ ?_
    show Steps pP.tables eE below (s₁.setTop (mkF mM 21 #[.val (.long q1), .second, .val (.long q2), .second, .val (.int p3), .val (.int p4), .val (.int p5), .val (.int p6), .val (.long b), .second, .unset, .unset, .unset, .unset, .unset, .unset, .unset, .unset, .unset] [(.int (32768 : Int32)), (.int (p4 &&& (65535 : Int32)))])) tT
    refine XS.isub X0.here hx rfl (Jvm.hb hby at_21) rfl ?_
    show Steps pP.tables eE below (s₁.setTop (mkF mM 22 #[.val (.long q1), .second, .val (.long q2), .second, .val (.int p3), .val (.int p4), .val (.int p5), .val (.int p6), .val (.long b), .second, .unset, .unset, .unset, .unset, .unset, .unset, .unset, .unset, .unset] [(.int ((p4 &&& (65535 : Int32)) - (32768 : Int32)))])) tT
    refine XS.i2dS X0.here hx rfl (Jvm.hb hby at_22) rfl rfl ?_
    show Steps pP.tables eE below (s₁.setTop (mkF mM 23 #[.val (.long q1), .second, .val (.long q2), .second, .val (.int p3), .val (.int p4), .val (.int p5), .val (.int p6), .val (.long b), .second, .unset, .unset, .unset, .unset, .unset, .unset, .unset, .unset, .unset] [(.double (FP.i2d ((p4 &&& (65535 : Int32)) - (32768 : Int32))))])) tT
    refine XS.dstore X0.here hx rfl (Jvm.hb hby at_23) rfl (l' := #[.val (.long q1), .second, .val (.long q2), .second, .val (.int p3), .val (.int p4), .val (.int p5), .val (.int p6), .val (.long b), .second, .val (.double (FP.i2d ((p4 &&& (65535 : Int32)) - (32768 : Int32)))), .second, .unset, .unset, .unset, .unset, .unset, .unset, .unset]) rfl ?_
    show Steps pP.tables eE below (s₁.setTop (mkF mM 25 #[.val (.long q1), .second, .val (.long q2), .second, .val (.int p3), .val (.int p4), .val (.int p5), .val (.int p6), .val (.long b), .second, .val (.double (FP.i2d ((p4 &&& (65535 : Int32)) - (32768 : Int32)))), .second, .unset, .unset, .unset, .unset, .unset, .unset, .unset] [])) tT
    refine XS.iload X0.here hx rfl (Jvm.hb hby at_25) rfl ?_
    show Steps pP.tables eE below (s₁.setTop (mkF mM 27 #[.val (.long q1), .second, .val (.long q2), .second, .val (.int p3), .val (.int p4), .val (.int p5), .val (.int p6), .val (.long b), .second, .val (.double (FP.i2d ((p4 &&& (65535 : Int32)) - (32768 : Int32)))), .second, .unset, .unset, .unset, .unset, .unset, .unset, .unset] [(.int p5)])) tT
    refine X0.ldcInt hx hown (mvT hZ (hw _ (List.mem_of_getElem? (i := 0) rfl))) (g := (mkF mM 27 #[.val (.long q1), .second, .val (.long q2), .second, .val (.int p3), .val (.int p4), .val (.int p5), .val (.int p6), .val (.long b), .second, .val (.double (FP.i2d ((p4 &&& (65535 : Int32)) - (32768 : Int32)))), .second, .unset, .unset, .unset, .unset, .unset, .unset, .unset] [(.int p5)])) rfl (Jvm.hb hby at_27) _ ?_
    show Steps pP.tables eE below (s₁.setTop (mkF mM 29 #[.val (.long q1), .second, .val (.long q2), .second, .val (.int p3), .val (.int p4), .val (.int p5), .val (.int p6), .val (.long b), .second, .val (.double (FP.i2d ((p4 &&& (65535 : Int32)) - (32768 : Int32)))), .second, .unset, .unset, .unset, .unset, .unset, .unset, .unset] [(.int (65535 : Int32)), (.int p5)])) tT
    refine XS.iand X0.here hx rfl (Jvm.hb hby at_29) rfl ?_
    show Steps pP.tables eE below (s₁.setTop (mkF mM 30 #[.val (.long q1), .second, .val (.long q2), .second, .val (.int p3), .val (.int p4), .val (.int p5), .val (.int p6), .val (.long b), .second, .val (.double (FP.i2d ((p4 &&& (65535 : Int32)) - (32768 : Int32)))), .second, .unset, .unset, .unset, .unset, .unset, .unset, .unset] [(.int (p5 &&& (65535 : Int32)))])) tT
    refine X0.ldcInt hx hown (mvT hZ (hw _ (List.mem_of_getElem? (i := 1) rfl))) (g := (mkF mM 30 #[.val (.long q1), .second, .val (.long q2), .second, .val (.int p3), .val (.int p4), .val (.int p5), .val (.int p6), .val (.long b), .second, .val (.double (FP.i2d ((p4 &&& (65535 : Int32)) - (32768 : Int32)))), .second, .unset, .unset, .unset, .unset, .unset, .unset, .unset] [(.int (p5 &&& (65535 : Int32)))])) rfl (Jvm.hb hby at_30) _ ?_
    show Steps pP.tables eE below (s₁.setTop (mkF mM 32 #[.val (.long q1), .second, .val (.long q2), .second, .val (.int p3), .val (.int p4), .val (.int p5), .val (.int p6), .val (.long b), .second, .val (.double (FP.i2d ((p4 &&& (65535 : Int32)) - (32768 : Int32)))), .second, .unset, .unset, .unset, .unset, .unset, .unset, .unset] [(.int (32768 : Int32)), (.int (p5 &&& (65535 : Int32)))])) tT
    refine XS.isub X0.here hx rfl (Jvm.hb hby at_32) rfl ?_
    show Steps pP.tables eE below (s₁.setTop (mkF mM 33 #[.val (.long q1), .second, .val (.long q2), .second, .val (.int p3), .val (.int p4), .val (.int p5), .val (.int p6), .val (.long b), .second, .val (.double (FP.i2d ((p4 &&& (65535 : Int32)) - (32768 : Int32)))), .second, .unset, .unset, .unset, .unset, .unset, .unset, .unset] [(.int ((p5 &&& (65535 : Int32)) - (32768 : Int32)))])) tT
    refine XS.i2dS X0.here hx rfl (Jvm.hb hby at_33) rfl rfl ?_
    show Steps pP.tables eE below (s₁.setTop (mkF mM 34 #[.val (.long q1), .second, .val (.long q2), .second, .val (.int p3), .val (.int p4), .val (.int p5), .val (.int p6), .val (.long b), .second, .val (.double (FP.i2d ((p4 &&& (65535 : Int32)) - (32768 : Int32)))), .second, .unset, .unset, .unset, .unset, .unset, .unset, .unset] [(.double (FP.i2d ((p5 &&& (65535 : Int32)) - (32768 : Int32))))])) tT
    refine XS.dstore X0.here hx rfl (Jvm.hb hby at_34) rfl (l' := #[.val (.long q1), .second, .val (.long q2), .second, .val (.int p3), .val (.int p4), .val (.int p5), .val (.int p6), .val (.long b), .second, .val (.double (FP.i2d ((p4 &&& (65535 : Int32)) - (32768 : Int32)))), .second, .val (.double (FP.i2d ((p5 &&& (65535 : Int32)) - (32768 : Int32)))), .second, .unset, .unset, .unset, .unset, .unset]) rfl ?_
    show Steps pP.tables eE below (s₁.setTop (mkF mM 36 #[.val (.long q1), .second, .val (.long q2), .second, .val (.int p3), .val (.int p4), .val (.int p5), .val (.int p6), .val (.long b), .second, .val (.double (FP.i2d ((p4 &&& (65535 : Int32)) - (32768 : Int32)))), .second, .val (.double (FP.i2d ((p5 &&& (65535 : Int32)) - (32768 : Int32)))), .second, .unset, .unset, .unset, .unset, .unset] [])) tT
    refine XS.iload X0.here hx rfl (Jvm.hb hby at_36) rfl ?_
    show Steps pP.tables eE below (s₁.setTop (mkF mM 38 #[.val (.long q1), .second, .val (.long q2), .second, .val (.int p3), .val (.int p4), .val (.int p5), .val (.int p6), .val (.long b), .second, .val (.double (FP.i2d ((p4 &&& (65535 : Int32)) - (32768 : Int32)))), .second, .val (.double (FP.i2d ((p5 &&& (65535 : Int32)) - (32768 : Int32)))), .second, .unset, .unset, .unset, .unset, .unset] [(.int p6)])) tT
    refine X0.ldcInt hx hown (mvT hZ (hw _ (List.mem_of_getElem? (i := 0) rfl))) (g := (mkF mM 38 #[.val (.long q1), .second, .val (.long q2), .second, .val (.int p3), .val (.int p4), .val (.int p5), .val (.int p6), .val (.long b), .second, .val (.double (FP.i2d ((p4 &&& (65535 : Int32)) - (32768 : Int32)))), .second, .val (.double (FP.i2d ((p5 &&& (65535 : Int32)) - (32768 : Int32)))), .second, .unset, .unset, .unset, .unset, .unset] [(.int p6)])) rfl (Jvm.hb hby at_38) _ ?_
    show Steps pP.tables eE below (s₁.setTop (mkF mM 40 #[.val (.long q1), .second, .val (.long q2), .second, .val (.int p3), .val (.int p4), .val (.int p5), .val (.int p6), .val (.long b), .second, .val (.double (FP.i2d ((p4 &&& (65535 : Int32)) - (32768 : Int32)))), .second, .val (.double (FP.i2d ((p5 &&& (65535 : Int32)) - (32768 : Int32)))), .second, .unset, .unset, .unset, .unset, .unset] [(.int (65535 : Int32)), (.int p6)])) tT
    refine XS.iand X0.here hx rfl (Jvm.hb hby at_40) rfl ?_
    show Steps pP.tables eE below (s₁.setTop (mkF mM 41 #[.val (.long q1), .second, .val (.long q2), .second, .val (.int p3), .val (.int p4), .val (.int p5), .val (.int p6), .val (.long b), .second, .val (.double (FP.i2d ((p4 &&& (65535 : Int32)) - (32768 : Int32)))), .second, .val (.double (FP.i2d ((p5 &&& (65535 : Int32)) - (32768 : Int32)))), .second, .unset, .unset, .unset, .unset, .unset] [(.int (p6 &&& (65535 : Int32)))])) tT
    refine X0.ldcInt hx hown (mvT hZ (hw _ (List.mem_of_getElem? (i := 1) rfl))) (g := (mkF mM 41 #[.val (.long q1), .second, .val (.long q2), .second, .val (.int p3), .val (.int p4), .val (.int p5), .val (.int p6), .val (.long b), .second, .val (.double (FP.i2d ((p4 &&& (65535 : Int32)) - (32768 : Int32)))), .second, .val (.double (FP.i2d ((p5 &&& (65535 : Int32)) - (32768 : Int32)))), .second, .unset, .unset, .unset, .unset, .unset] [(.int (p6 &&& (65535 : Int32)))])) rfl (Jvm.hb hby at_41) _ ?_
    show Steps pP.tables eE below (s₁.setTop (mkF mM 43 #[.val (.long q1), .second, .val (.long q2), .second, .val (.int p3), .val (.int p4), .val (.int p5), .val (.int p6), .val (.long b), .second, .val (.double (FP.i2d ((p4 &&& (65535 : Int32)) - (32768 : Int32)))), .second, .val (.double (FP.i2d ((p5 &&& (65535 : Int32)) - (32768 : Int32)))), .second, .unset, .unset, .unset, .unset, .unset] [(.int (32768 : Int32)), (.int (p6 &&& (65535 : Int32)))])) tT
    refine XS.isub X0.here hx rfl (Jvm.hb hby at_43) rfl ?_
    show Steps pP.tables eE below (s₁.setTop (mkF mM 44 #[.val (.long q1), .second, .val (.long q2), .second, .val (.int p3), .val (.int p4), .val (.int p5), .val (.int p6), .val (.long b), .second, .val (.double (FP.i2d ((p4 &&& (65535 : Int32)) - (32768 : Int32)))), .second, .val (.double (FP.i2d ((p5 &&& (65535 : Int32)) - (32768 : Int32)))), .second, .unset, .unset, .unset, .unset, .unset] [(.int ((p6 &&& (65535 : Int32)) - (32768 : Int32)))])) tT
    refine XS.i2dS X0.here hx rfl (Jvm.hb hby at_44) rfl rfl ?_
    show Steps pP.tables eE below (s₁.setTop (mkF mM 45 #[.val (.long q1), .second, .val (.long q2), .second, .val (.int p3), .val (.int p4), .val (.int p5), .val (.int p6), .val (.long b), .second, .val (.double (FP.i2d ((p4 &&& (65535 : Int32)) - (32768 : Int32)))), .second, .val (.double (FP.i2d ((p5 &&& (65535 : Int32)) - (32768 : Int32)))), .second, .unset, .unset, .unset, .unset, .unset] [(.double (FP.i2d ((p6 &&& (65535 : Int32)) - (32768 : Int32))))])) tT
    refine XS.dstore X0.here hx rfl (Jvm.hb hby at_45) rfl (l' := #[.val (.long q1), .second, .val (.long q2), .second, .val (.int p3), .val (.int p4), .val (.int p5), .val (.int p6), .val (.long b), .second, .val (.double (FP.i2d ((p4 &&& (65535 : Int32)) - (32768 : Int32)))), .second, .val (.double (FP.i2d ((p5 &&& (65535 : Int32)) - (32768 : Int32)))), .second, .val (.double (FP.i2d ((p6 &&& (65535 : Int32)) - (32768 : Int32)))), .second, .unset, .unset, .unset]) rfl ?_
    show Steps pP.tables eE below (s₁.setTop (mkF mM 47 #[.val (.long q1), .second, .val (.long q2), .second, .val (.int p3), .val (.int p4), .val (.int p5), .val (.int p6), .val (.long b), .second, .val (.double (FP.i2d ((p4 &&& (65535 : Int32)) - (32768 : Int32)))), .second, .val (.double (FP.i2d ((p5 &&& (65535 : Int32)) - (32768 : Int32)))), .second, .val (.double (FP.i2d ((p6 &&& (65535 : Int32)) - (32768 : Int32)))), .second, .unset, .unset, .unset] [])) tT
    exact kK
  show own_Fin pP eE below _ (s₁.setTop (mkF mM 47 #[.val (.long q1), .second, .val (.long q2), .second, .val (.int p3), .val (.int p4), .val (.int p5), .val (.int p6), .val (.long b), .second, .val (.double (FP.i2d ((p4 &&& (65535 : Int32)) - (32768 : Int32)))), .second, .val (.double (FP.i2d ((p5 &&& (65535 : Int32)) - (32768 : Int32)))), .second, .val (.double (FP.i2d ((p6 &&& (65535 : Int32)) - (32768 : Int32)))), .second, .unset, .unset, .unset] []))
  generalize hd1 : (FP.i2d ((p4 &&& (65535 : Int32)) - (32768 : Int32))) = d1
  show own_Fin pP eE below _ (s₁.setTop (mkF mM 47 #[.val (.long q1), .second, .val (.long q2), .second, .val (.int p3), .val (.int p4), .val (.int p5), .val (.int p6), .val (.long b), .second, .val (.double d1), .second, .val (.double (FP.i2d ((p5 &&& (65535 : Int32)) - (32768 : Int32)))), .second, .val (.double (FP.i2d ((p6 &&& (65535 : Int32)) - (32768 : Int32)))), .second, .unset, .unset, .unset] []))
  show own_Fin pP eE below _ (s₁.setTop (mkF mM 47 #[.val (.long q1), .second, .val (.long q2), .second, .val (.int p3), .val (.int p4), .val (.int p5), .val (.int p6), .val (.long b), .second, .val (.double d1), .second, .val (.double (FP.i2d ((p5 &&& (65535 : Int32)) - (32768 : Int32)))), .second, .val (.double (FP.i2d ((p6 &&& (65535 : Int32)) - (32768 : Int32)))), .second, .unset, .unset, .unset] []))
  generalize hd2 : (FP.i2d ((p5 &&& (65535 : Int32)) - (32768 : Int32))) = d2
  show own_Fin pP eE below _ (s₁.setTop (mkF mM 47 #[.val (.long q1), .second, .val (.long q2), .second, .val (.int p3), .val (.int p4), .val (.int p5), .val (.int p6), .val (.long b), .second, .val (.double d1), .second, .val (.double d2), .second, .val (.double (FP.i2d ((p6 &&& (65535 : Int32)) - (32768 : Int32)))), .second, .unset, .unset, .unset] []))
  show own_Fin pP eE below _ (s₁.setTop (mkF mM 47 #[.val (.long q1), .second, .val (.long q2), .second, .val (.int p3), .val (.int p4), .val (.int p5), .val (.int p6), .val (.long b), .second, .val (.double d1), .second, .val (.double d2), .second, .val (.double (FP.i2d ((p6 &&& (65535 : Int32)) - (32768 : Int32)))), .second, .unset, .unset, .unset] []))
  generalize hd3 : (FP.i2d ((p6 &&& (65535 : Int32)) - (32768 : Int32))) = d3
  show own_Fin pP eE below _ (s₁.setTop (mkF mM 47 #[.val (.long q1), .second, .val (.long q2), .second, .val (.int p3), .val (.int p4), .val (.int p5), .val (.int p6), .val (.long b), .second, .val (.double d1), .second, .val (.double d2), .second, .val (.double d3), .second, .unset, .unset, .unset] []))
  obtain ⟨T2_, h2_, X2_, e2_, E2_, A2_, D2_, -, st2_⟩ := newO X0 hx hZ hown (hw _ (List.mem_of_getElem? (i := 2) rfl)) (hw _ (List.mem_of_getElem? (i := 3) rfl)) (hw _ (List.mem_of_getElem? (i := 4) rfl)) e0 (g := (mkF mM 47 #[.val (.long q1), .second, .val (.long q2), .second, .val (.int p3), .val (.int p4), .val (.int p5), .val (.int p6), .val (.long b), .second, .val (.double d1), .second, .val (.double d2), .second, .val (.double d3), .second, .unset, .unset, .unset] [])) rfl (Jvm.hb hby at_47) (by decide) (by decide)
  obtain ⟨b2_, g2_⟩ : ∃ z, z = h0.size := ⟨_, rfl⟩
  rw [← g2_] at A2_ D2_ st2_
  have sz_b2_ : h0.size ≤ b2_ := Nat.le_trans K0.1 (Nat.le_of_eq g2_.symm)
  have ge_b2_ : n0 ≤ b2_ := Nat.le_trans Z0 sz_b2_
  have K2_ := K0.ext E2_
  have F2__needleworkCount : Fld Z h2_ b2_ "com/example/needlework/needlework/cli/Bench$Result" "needleworkCount" "J" (.long (0 : Int64)) := D2_ (Or.inr (hw _ (List.mem_of_getElem? (i := 17) rfl))) (ty := .long) (by decide)
  have F2__needleworkMillis : Fld Z h2_ b2_ "com/example/needlework/needlework/cli/Bench$Result" "needleworkMillis" "D" (.double (0 : UInt64)) := D2_ (Or.inr (hw _ (List.mem_of_getElem? (i := 19) rfl))) (ty := .double) (by decide)
  have F2__indexOfCount : Fld Z h2_ b2_ "com/example/needlework/needlework/cli/Bench$Result" "indexOfCount" "J" (.long (0 : Int64)) := D2_ (Or.inr (hw _ (List.mem_of_getElem? (i := 21) rfl))) (ty := .long) (by decide)
  have F2__indexOfMillis : Fld Z h2_ b2_ "com/example/needlework/needlework/cli/Bench$Result" "indexOfMillis" "D" (.double (0 : UInt64)) := D2_ (Or.inr (hw _ (List.mem_of_getElem? (i := 23) rfl))) (ty := .double) (by decide)
  have F2__ratio : Fld Z h2_ b2_ "com/example/needlework/needlework/cli/Bench$Result" "ratio" "D" (.double (0 : UInt64)) := D2_ (Or.inr (hw _ (List.mem_of_getElem? (i := 25) rfl))) (ty := .double) (by decide)
  refine own_fin st2_ ?_
  show own_Fin pP eE below _ (T2_.setTop (mkF mM 50 #[.val (.long q1), .second, .val (.long q2), .second, .val (.int p3), .val (.int p4), .val (.int p5), .val (.int p6), .val (.long b), .second, .val (.double d1), .second, .val (.double d2), .second, .val (.double d3), .second, .unset, .unset, .unset] [(.ref b2_)]))
  refine own_fin (b := T2_.setTop (mkF mM 60 #[.val (.long q1), .second, .val (.long q2), .second, .val (.int p3), .val (.int p4), .val (.int p5), .val (.int p6), .val (.long b), .second, .val (.double d1), .second, .val (.double d2), .second, .val (.double d3), .second, .unset, .unset, .unset] [(.double d3), (.double d2), (.long b), (.double d1), (.long q1), (.ref b2_), (.ref b2_)])) (fun tT kK => ?_) ?_
  · show Steps pP.tables eE below (T2_.setTop (mkF mM 50 #[.val (.long q1), .second, .val (.long q2), .second, .val (.int p3), .val (.int p4), .val (.int p5), .val (.int p6), .val (.long b), .second, .val (.double d1), .second, .val (.double d2), .second, .val (.double d3), .second, .unset, .unset, .unset] [(.ref b2_)])) tT
    refine XS.dup X2_.here hx rfl (Jvm.hb hby at_50) rfl rfl ?_
    show Steps pP.tables eE below (T2_.setTop (mkF mM 51 #[.val (.long q1), .second, .val (.long q2), .second, .val (.int p3), .val (.int p4), .val (.int p5), .val (.int p6), .val (.long b), .second, .val (.double d1), .second, .val (.double d2), .second, .val (.double d3), .second, .unset, .unset, .unset] [(.ref b2_), (.ref b2_)])) tT
    refine XS.lloadN X2_.here hx rfl (Jvm.hb hby at_51) rfl ?_
    show Steps pP.tables eE below (T2_.setTop (mkF mM 52 #[.val (.long q1), .second, .val (.long q2), .second, .val (.int p3), .val (.int p4), .val (.int p5), .val (.int p6), .val (.long b), .second, .val (.double d1), .second, .val (.double d2), .second, .val (.double d3), .second, .unset, .unset, .unset] [(.long q1), (.ref b2_), (.ref b2_)])) tT
    refine XS.dload X2_.here hx rfl (Jvm.hb hby at_52) rfl ?_
    show Steps pP.tables eE below (T2_.setTop (mkF mM 54 #[.val (.long q1), .second, .val (.long q2), .second, .val (.int p3), .val (.int p4), .val (.int p5), .val (.int p6), .val (.long b), .second, .val (.double d1), .second, .val (.double d2), .second, .val (.double d3), .second, .unset, .unset, .unset] [(.double d1), (.long q1), (.ref b2_), (.ref b2_)])) tT
    refine XS.lload X2_.here hx rfl (Jvm.hb hby at_54) rfl ?_
    show Steps pP.tables eE below (T2_.setTop (mkF mM 56 #[.val (.long q1), .second, .val (.long q2), .second, .val (.int p3), .val (.int p4), .val (.int p5), .val (.int p6), .val (.long b), .second, .val (.double d1), .second, .val (.double d2), .second, .val (.double d3), .second, .unset, .unset, .unset] [(.long b), (.double d1), (.long q1), (.ref b2_), (.ref b2_)])) tT
    refine XS.dload X2_.here hx rfl (Jvm.hb hby at_56) rfl ?_
    show Steps pP.tables eE below (T2_.setTop (mkF mM 58 #[.val (.long q1), .second, .val (.long q2), .second, .val (.int p3), .val (.int p4), .val (.int p5), .val (.int p6), .val (.long b), .second, .val (.double d1), .second, .val (.double d2), .second, .val (.double d3), .second, .unset, .unset, .unset] [(.double d2), (.long b), (.double d1), (.long q1), (.ref b2_), (.ref b2_)])) tT
    refine XS.dload X2_.here hx rfl (Jvm.hb hby at_58) rfl ?_
    show Steps pP.tables eE below (T2_.setTop (mkF mM 60 #[.val (.long q1), .second, .val (.long q2), .second, .val (.int p3), .val (.int p4), .val (.int p5), .val (.int p6), .val (.long b), .second, .val (.double d1), .second, .val (.double d2), .second, .val (.double d3), .second, .unset, .unset, .unset] [(.double d3), (.double d2), (.long b), (.double d1), (.long q1), (.ref b2_), (.ref b2_)])) tT
    exact kK
  obtain ⟨_, _, ⟨T3_, L3_, k3_, n3_⟩, -, X3_, ⟨Lc3_, hQ3_, l3_, y3_, z3_⟩, st3_⟩ := X2_.specialBack hx (y := (⟨"com/example/needlework/needlework/cli/Bench$Result", "<init>", "(JDJDD)V"⟩ : MethodName)) rfl hown (mvT hZ (hw _ (List.mem_of_getElem? (i := 5) rfl))) (mvT hZ (hw _ (List.mem_of_getElem? (i := 6) rfl))) (mvT hZ (hw _ (List.mem_of_getElem? (i := 7) rfl))) (by decide) (backOf (W := 1) (rm_init lL Z a0 hw [] b2_ q1 d1 b d2 d3 h2_ n0 (Nat.le_trans Z0 K2_.1) A2_ F2__needleworkCount F2__needleworkMillis F2__indexOfCount F2__indexOfMillis F2__ratio ge_b2_) hZ (hw _ (List.mem_of_getElem? (i := 7) rfl)) (hw _ (List.mem_of_getElem? (i := 4) rfl)) (by decide) (by decide)) (g := (mkF mM 60 #[.val (.long q1), .second, .val (.long q2), .second, .val (.int p3), .val (.int p4), .val (.int p5), .val (.int p6), .val (.long b), .second, .val (.double d1), .second, .val (.double d2), .second, .val (.double d3), .second, .unset, .unset, .unset] [(.double d3), (.double d2), (.long b), (.double d1), (.long q1), (.ref b2_), (.ref b2_)])) rfl (by rw [hml]; rfl) (Steps.refl _) (a := b2_) (argsL := [(.long q1), (.double d1), (.long b), (.double d2), (.double d3)]) (rest := [(.ref b2_)]) (lenOf own_pd1 rfl) rfl (by show 2 * 0 + _ ≤ _; exact Nat.le_of_eq rfl) (Jvm.hb hby at_60) (fun _ _ => ⟨rfl, e2_, (by decide : 1 + 0 ≤ _), (by decide : 5 + 0 ≤ _)⟩)
  dsimp only [Pt.U, Pt.locs, Pt.cells, Pt.slots] at X3_ l3_ y3_ z3_ st3_ hQ3_
  subst l3_ y3_ z3_
  obtain ⟨rfl, N3_q, p3__0, p3__1, p3__2, p3__3⟩ := hQ3_
  have N3_ := Fr.app N0 N3_q
  have fc4_ := A2_.keep p3__0
  have K3_ := K2_.trans p3__0 (allS (Or.inr sz_b2_) all0)
  refine own_fin (fun tT kK => st3_.trans kK) ?_
  show own_Fin pP eE below _ (T3_.setTop (mkF mM 63 #[.val (.long q1), .second, .val (.long q2), .second, .val (.int p3), .val (.int p4), .val (.int p5), .val (.int p6), .val (.long b), .second, .val (.double d1), .second, .val (.double d2), .second, .val (.double d3), .second, .unset, .unset, .unset] [(.ref b2_)]))
  refine own_fin (b := T3_.setTop (mkF mM 65 #[.val (.long q1), .second, .val (.long q2), .second, .val (.int p3), .val (.int p4), .val (.int p5), .val (.int p6), .val (.long b), .second, .val (.double d1), .second, .val (.double d2), .second, .val (.double d3), .second, .val (.ref b2_), .unset, .unset] [])) (fun tT kK => ?_) ?_
  · show Steps pP.tables eE below (T3_.setTop (mkF mM 63 #[.val (.long q1), .second, .val (.long q2), .second, .val (.int p3), .val (.int p4), .val (.int p5), .val (.int p6), .val (.long b), .second, .val (.double d1), .second, .val (.double d2), .second, .val (.double d3), .second, .unset, .unset, .unset] [(.ref b2_)])) tT
    refine XS.astore X3_.here hx rfl (Jvm.hb hby at_63) rfl rfl (l' := #[.val (.long q1), .second, .val (.long q2), .second, .val (.int p3), .val (.int p4), .val (.int p5), .val (.int p6), .val (.long b), .second, .val (.double d1), .second, .val (.double d2), .second, .val (.double d3), .second, .val (.ref b2_), .unset, .unset]) rfl ?_
    show Steps pP.tables eE below (T3_.setTop (mkF mM 65 #[.val (.long q1), .second, .val (.long q2), .second, .val (.int p3), .val (.int p4), .val (.int p5), .val (.int p6), .val (.long b), .second, .val (.double d1), .second, .val (.double d2), .second, .val (.double d3), .second, .val (.ref b2_), .unset, .unset] [])) tT
    exact kK
  obtain ⟨T5_, h5_, X5_, e5_, E5_, A5_, D5_, -, st5_⟩ := newO X3_ hx hZ hown (hw _ (List.mem_of_getElem? (i := 2) rfl)) (hw _ (List.mem_of_getElem? (i := 3) rfl)) (hw _ (List.mem_of_getElem? (i := 4) rfl)) rfl (g := (mkF mM 65 #[.val (.long q1), .second, .val (.long q2), .second, .val (.int p3), .val (.int p4), .val (.int p5), .val (.int p6), .val (.long b), .second, .val (.double d1), .second, .val (.double d2), .second, .val (.double d3), .second, .val (.ref b2_), .unset, .unset] [])) rfl (Jvm.hb hby at_65) (by decide) (by decide)
  obtain ⟨b5_, g5_⟩ : ∃ z, z = T3_.heap.size := ⟨_, rfl⟩
  rw [← g5_] at A5_ D5_ st5_
  have sz_b5_ : h0.size ≤ b5_ := Nat.le_trans K3_.1 (Nat.le_of_eq g5_.symm)
  have ge_b5_ : n0 ≤ b5_ := Nat.le_trans Z0 sz_b5_
  have ne6_ : b2_ ≠ b5_ := Nat.ne_of_lt (Nat.lt_of_lt_of_le p3__1.lt (Nat.le_of_eq g5_.symm))
  have fc7_ := p3__1.ext E5_
  have fc8_ := p3__2.ext E5_
  have fc9_ := p3__3.ext E5_
  have K5_ := K3_.ext E5_
  have F5__needleworkCount : Fld Z h5_ b5_ "com/example/needlework/needlework/cli/Bench$Result" "needleworkCount" "J" (.long (0 : Int64)) := D5_ (Or.inr (hw _ (List.mem_of_getElem? (i := 17) rfl))) (ty := .long) (by decide)
  have F5__needleworkMillis : Fld Z h5_ b5_ "com/example/needlework/needlework/cli/Bench$Result" "needleworkMillis" "D" (.double (0 : UInt64)) := D5_ (Or.inr (hw _ (List.mem_of_getElem? (i := 19) rfl))) (ty := .double) (by decide)
  have F5__indexOfCount : Fld Z h5_ b5_ "com/example/needlework/needlework/cli/Bench$Result" "indexOfCount" "J" (.long (0 : Int64)) := D5_ (Or.inr (hw _ (List.mem_of_getElem? (i := 21) rfl))) (ty := .long) (by decide)
  have F5__indexOfMillis : Fld Z h5_ b5_ "com/example/needlework/needlework/cli/Bench$Result" "indexOfMillis" "D" (.double (0 : UInt64)) := D5_ (Or.inr (hw _ (List.mem_of_getElem? (i := 23) rfl))) (ty := .double) (by decide)
  have F5__ratio : Fld Z h5_ b5_ "com/example/needlework/needlework/cli/Bench$Result" "ratio" "D" (.double (0 : UInt64)) := D5_ (Or.inr (hw _ (List.mem_of_getElem? (i := 25) rfl))) (ty := .double) (by decide)
  refine own_fin st5_ ?_
  show own_Fin pP eE below _ (T5_.setTop (mkF mM 68 #[.val (.long q1), .second, .val (.long q2), .second, .val (.int p3), .val (.int p4), .val (.int p5), .val (.int p6), .val (.long b), .second, .val (.double d1), .second, .val (.double d2), .second, .val (.double d3), .second, .val (.ref b2_), .unset, .unset] [(.ref b5_)]))
  refine own_fin (b := T5_.setTop (mkF mM 78 #[.val (.long q1), .second, .val (.long q2), .second, .val (.int p3), .val (.int p4), .val (.int p5), .val (.int p6), .val (.long b), .second, .val (.double d1), .second, .val (.double d2), .second, .val (.double d3), .second, .val (.ref b2_), .unset, .unset] [(.double d2), (.double d1), (.long q1), (.double d3), (.long b), (.ref b5_), (.ref b5_)])) (fun tT kK => ?_) ?_
  · show Steps pP.tables eE below (T5_.setTop (mkF mM 68 #[.val (.long q1), .second, .val (.long q2), .second, .val (.int p3), .val (.int p4), .val (.int p5), .val (.int p6), .val (.long b), .second, .val (.double d1), .second, .val (.double d2), .second, .val (.double d3), .second, .val (.ref b2_), .unset, .unset] [(.ref b5_)])) tT
    refine XS.dup X5_.here hx rfl (Jvm.hb hby at_68) rfl rfl ?_
    show Steps pP.tables eE below (T5_.setTop (mkF mM 69 #[.val (.long q1), .second, .val (.long q2), .second, .val (.int p3), .val (.int p4), .val (.int p5), .val (.int p6), .val (.long b), .second, .val (.double d1), .second, .val (.double d2), .second, .val (.double d3), .second, .val (.ref b2_), .unset, .unset] [(.ref b5_), (.ref b5_)])) tT
    refine XS.lload X5_.here hx rfl (Jvm.hb hby at_69) rfl ?_
    show Steps pP.tables eE below (T5_.setTop (mkF mM 71 #[.val (.long q1), .second, .val (.long q2), .second, .val (.int p3), .val (.int p4), .val (.int p5), .val (.int p6), .val (.long b), .second, .val (.double d1), .second, .val (.double d2), .second, .val (.double d3), .second, .val (.ref b2_), .unset, .unset] [(.long b), (.ref b5_), (.ref b5_)])) tT
    refine XS.dload X5_.here hx rfl (Jvm.hb hby at_71) rfl ?_
    show Steps pP.tables eE below (T5_.setTop (mkF mM 73 #[.val (.long q1), .second, .val (.long q2), .second, .val (.int p3), .val (.int p4), .val (.int p5), .val (.int p6), .val (.long b), .second, .val (.double d1), .second, .val (.double d2), .second, .val (.double d3), .second, .val (.ref b2_), .unset, .unset] [(.double d3), (.long b), (.ref b5_), (.ref b5_)])) tT
    refine XS.lloadN X5_.here hx rfl (Jvm.hb hby at_73) rfl ?_
    show Steps pP.tables eE below (T5_.setTop (mkF mM 74 #[.val (.long q1), .second, .val (.long q2), .second, .val (.int p3), .val (.int p4), .val (.int p5), .val (.int p6), .val (.long b), .second, .val (.double d1), .second, .val (.double d2), .second, .val (.double d3), .second, .val (.ref b2_), .unset, .unset] [(.long q1), (.double d3), (.long b), (.ref b5_), (.ref b5_)])) tT
    refine XS.dload X5_.here hx rfl (Jvm.hb hby at_74) rfl ?_
    show Steps pP.tables eE below (T5_.setTop (mkF mM 76 #[.val (.long q1), .second, .val (.long q2), .second, .val (.int p3), .val (.int p4), .val (.int p5), .val (.int p6), .val (.long b), .second, .val (.double d1), .second, .val (.double d2), .second, .val (.double d3), .second, .val (.ref b2_), .unset, .unset] [(.double d1), (.long q1), (.double d3), (.long b), (.ref b5_), (.ref b5_)])) tT
    refine XS.dload X5_.here hx rfl (Jvm.hb hby at_76) rfl ?_
    show Steps pP.tables eE below (T5_.setTop (mkF mM 78 #[.val (.long q1), .second, .val (.long q2), .second, .val (.int p3), .val (.int p4), .val (.int p5), .val (.int p6), .val (.long b), .second, .val (.double d1), .second, .val (.double d2), .second, .val (.double d3), .second, .val (.ref b2_), .unset, .unset] [(.double d2), (.double d1), (.long q1), (.double d3), (.long b), (.ref b5_), (.ref b5_)])) tT
    exact kK
  obtain ⟨_, _, ⟨T10_, L10_, k10_, n10_⟩, -, X10_, ⟨Lc10_, hQ10_, l10_, y10_, z10_⟩, st10_⟩ := X5_.specialBack hx (y := (⟨"com/example/needlework/needlework/cli/Bench$Result", "<init>", "(JDJDD)V"⟩ : MethodName)) rfl hown (mvT hZ (hw _ (List.mem_of_getElem? (i := 5) rfl))) (mvT hZ (hw _ (List.mem_of_getElem? (i := 6) rfl))) (mvT hZ (hw _ (List.mem_of_getElem? (i := 7) rfl))) (by decide) (backOf (W := 1) (rm_init lL Z a0 hw [] b5_ b d3 q1 d1 d2 h5_ n0 (Nat.le_trans Z0 K5_.1) A5_ F5__needleworkCount F5__needleworkMillis F5__indexOfCount F5__indexOfMillis F5__ratio ge_b5_) hZ (hw _ (List.mem_of_getElem? (i := 7) rfl)) (hw _ (List.mem_of_getElem? (i := 4) rfl)) (by decide) (by decide)) (g := (mkF mM 78 #[.val (.long q1), .second, .val (.long q2), .second, .val (.int p3), .val (.int p4), .val (.int p5), .val (.int p6), .val (.long b), .second, .val (.double d1), .second, .val (.double d2), .second, .val (.double d3), .second, .val (.ref b2_), .unset, .unset] [(.double d2), (.double d1), (.long q1), (.double d3), (.long b), (.ref b5_), (.ref b5_)])) rfl (by rw [hml]; rfl) (Steps.refl _) (a := b5_) (argsL := [(.long b), (.double d3), (.long q1), (.double d1), (.double d2)]) (rest := [(.ref b5_)]) (lenOf own_pd1 rfl) rfl (by show 2 * 0 + _ ≤ _; exact Nat.le_of_eq rfl) (Jvm.hb hby at_78) (fun _ _ => ⟨rfl, e5_, (by decide : 2 + 0 ≤ _), (by decide : 10 + 0 ≤ _)⟩)
  dsimp only [Pt.U, Pt.locs, Pt.cells, Pt.slots] at X10_ l10_ y10_ z10_ st10_ hQ10_
  subst l10_ y10_ z10_
  obtain ⟨rfl, N10_q, p10__0, p10__1, p10__2, p10__3⟩ := hQ10_
  have N10_ := Fr.app N3_ N10_q
  have fc11_ := fc7_.keep p10__0
  have fc12_ := fc8_.keep p10__0 (ninS ne6_ nin0)
  have fc13_ := fc9_.keep p10__0 (ninS ne6_ nin0)
  have fc14_ := A5_.keep p10__0
  have K10_ := K5_.trans p10__0 (allS (Or.inr sz_b5_) all0)
  refine own_fin (fun tT kK => st10_.trans kK) ?_
  show own_Fin pP eE below _ (T10_.setTop (mkF mM 81 #[.val (.long q1), .second, .val (.long q2), .second, .val (.int p3), .val (.int p4), .val (.int p5), .val (.int p6), .val (.long b), .second, .val (.double d1), .second, .val (.double d2), .second, .val (.double d3), .second, .val (.ref b2_), .unset, .unset] [(.ref b5_)]))
  refine own_fin (b := T10_.setTop (mkF mM 89 #[.val (.long q1), .second, .val (.long q2), .second, .val (.int p3), .val (.int p4), .val (.int p5), .val (.int p6), .val (.long b), .second, .val (.double d1), .second, .val (.double d2), .second, .val (.double d3), .second, .val (.ref b2_), .val (.ref b5_), .unset] [(.int (lcmpW (q1 ^^^ b) (0 : Int64)))])) (fun tT kK => ?_) ?_
  · show Steps pP.tables eE below (T10_.setTop (mkF mM 81 #[.val (.long q1), .second, .val (.long q2), .second, .val (.int p3), .val (.int p4), .val (.int p5), .val (.int p6), .val (.long b), .second, .val (.double d1), .second, .val (.double d2), .second, .val (.double d3), .second, .val (.ref b2_), .unset, .unset] [(.ref b5_)])) tT
    refine XS.astore X10_.here hx rfl (Jvm.hb hby at_81) rfl rfl (l' := #[.val (.long q1), .second, .val (.long q2), .second, .val (.int p3), .val (.int p4), .val (.int p5), .val (.int p6), .val (.long b), .second, .val (.double d1), .second, .val (.double d2), .second, .val (.double d3), .second, .val (.ref b2_), .val (.ref b5_), .unset]) rfl ?_
    show Steps pP.tables eE below (T10_.setTop (mkF mM 83 #[.val (.long q1), .second, .val (.long q2), .second, .val (.int p3), .val (.int p4), .val (.int p5), .val (.int p6), .val (.long b), .second, .val (.double d1), .second, .val (.double d2), .second, .val (.double d3), .second, .val (.ref b2_), .val (.ref b5_), .unset] [])) tT
    refine XS.lloadN X10_.here hx rfl (Jvm.hb hby at_83) rfl ?_
    show Steps pP.tables eE below (T10_.setTop (mkF mM 84 #[.val (.long q1), .second, .val (.long q2), .second, .val (.int p3), .val (.int p4), .val (.int p5), .val (.int p6), .val (.long b), .second, .val (.double d1), .second, .val (.double d2), .second, .val (.double d3), .second, .val (.ref b2_), .val (.ref b5_), .unset] [(.long q1)])) tT
    refine XS.lload X10_.here hx rfl (Jvm.hb hby at_84) rfl ?_
    show Steps pP.tables eE below (T10_.setTop (mkF mM 86 #[.val (.long q1), .second, .val (.long q2), .second, .val (.int p3), .val (.int p4), .val (.int p5), .val (.int p6), .val (.long b), .second, .val (.double d1), .second, .val (.double d2), .second, .val (.double d3), .second, .val (.ref b2_), .val (.ref b5_), .unset] [(.long b), (.long q1)])) tT
    refine XS.lxor X10_.here hx rfl (Jvm.hb hby at_86) rfl ?_
    show Steps pP.tables eE below (T10_.setTop (mkF mM 87 #[.val (.long q1), .second, .val (.long q2), .second, .val (.int p3), .val (.int p4), .val (.int p5), .val (.int p6), .val (.long b), .second, .val (.double d1), .second, .val (.double d2), .second, .val (.double d3), .second, .val (.ref b2_), .val (.ref b5_), .unset] [(.long (q1 ^^^ b))])) tT
    refine XS.lconst X10_.here hx rfl (Jvm.hb hby at_87) ?_
    show Steps pP.tables eE below (T10_.setTop (mkF mM 88 #[.val (.long q1), .second, .val (.long q2), .second, .val (.int p3), .val (.int p4), .val (.int p5), .val (.int p6), .val (.long b), .second, .val (.double d1), .second, .val (.double d2), .second, .val (.double d3), .second, .val (.ref b2_), .val (.ref b5_), .unset] [(.long (0 : Int64)), (.long (q1 ^^^ b))])) tT
    refine XS.lcmp X10_.here hx rfl (Jvm.hb hby at_88) rfl ?_
    show Steps pP.tables eE below (T10_.setTop (mkF mM 89 #[.val (.long q1), .second, .val (.long q2), .second, .val (.int p3), .val (.int p4), .val (.int p5), .val (.int p6), .val (.long b), .second, .val (.double d1), .second, .val (.double d2), .second, .val (.double d3), .second, .val (.ref b2_), .val (.ref b5_), .unset] [(.int (lcmpW (q1 ^^^ b) (0 : Int64)))])) tT
    exact kK
  by_cases hc89_15_ : (q1 ^^^ b) = (0 : Int64)
  · refine own_fin (b := T10_.setTop (mkF mM 101 #[.val (.long q1), .second, .val (.long q2), .second, .val (.int p3), .val (.int p4), .val (.int p5), .val (.int p6), .val (.long b), .second, .val (.double d1), .second, .val (.double d2), .second, .val (.double d3), .second, .val (.ref b2_), .val (.ref b5_), .val (.int (1 : Int32))] [(.ref b2_)])) (fun tT kK => ?_) ?_
    · show Steps pP.tables eE below (T10_.setTop (mkF mM 89 #[.val (.long q1), .second, .val (.long q2), .second, .val (.int p3), .val (.int p4), .val (.int p5), .val (.int p6), .val (.long b), .second, .val (.double d1), .second, .val (.double d2), .second, .val (.double d3), .second, .val (.ref b2_), .val (.ref b5_), .unset] [(.int (lcmpW (q1 ^^^ b) (0 : Int64)))])) tT
      refine XS.ifNo X10_.here hx rfl (Jvm.hb hby at_89) rfl ((if0 _ _).trans (teq ((lw_eq (q1 ^^^ b) (0 : Int64)).mpr (hc89_15_ : (q1 ^^^ b) = (0 : Int64)))).2) ?_
      show Steps pP.tables eE below (T10_.setTop (mkF mM 92 #[.val (.long q1), .second, .val (.long q2), .second, .val (.int p3), .val (.int p4), .val (.int p5), .val (.int p6), .val (.long b), .second, .val (.double d1), .second, .val (.double d2), .second, .val (.double d3), .second, .val (.ref b2_), .val (.ref b5_), .unset] [])) tT
      refine XS.iconst X10_.here hx rfl (Jvm.hb hby at_92) ?_
      show Steps pP.tables eE below (T10_.setTop (mkF mM 93 #[.val (.long q1), .second, .val (.long q2), .second, .val (.int p3), .val (.int p4), .val (.int p5), .val (.int p6), .val (.long b), .second, .val (.double d1), .second, .val (.double d2), .second, .val (.double d3), .second, .val (.ref b2_), .val (.ref b5_), .unset] [(.int (1 : Int32))])) tT
      refine XS.goto X10_.here hx rfl (pc0 := 93) (pc' := 97) rfl (Jvm.hb hby at_93) (by decide) (by decide) ?_
      show Steps pP.tables eE below (T10_.setTop (mkF mM 97 #[.val (.long q1), .second, .val (.long q2), .second, .val (.int p3), .val (.int p4), .val (.int p5), .val (.int p6), .val (.long b), .second, .val (.double d1), .second, .val (.double d2), .second, .val (.double d3), .second, .val (.ref b2_), .val (.ref b5_), .unset] [(.int (1 : Int32))])) tT
      refine XS.istore X10_.here hx rfl (Jvm.hb hby at_97) rfl (l' := #[.val (.long q1), .second, .val (.long q2), .second, .val (.int p3), .val (.int p4), .val (.int p5), .val (.int p6), .val (.long b), .second, .val (.double d1), .second, .val (.double d2), .second, .val (.double d3), .second, .val (.ref b2_), .val (.ref b5_), .val (.int (1 : Int32))]) rfl ?_
      show Steps pP.tables eE below (T10_.setTop (mkF mM 99 #[.val (.long q1), .second, .val (.long q2), .second, .val (.int p3), .val (.int p4), .val (.int p5), .val (.int p6), .val (.long b), .second, .val (.double d1), .second, .val (.double d2), .second, .val (.double d3), .second, .val (.ref b2_), .val (.ref b5_), .val (.int (1 : Int32))] [])) tT
      refine XS.aload X10_.here hx rfl (Jvm.hb hby at_99) rfl rfl ?_
      show Steps pP.tables eE below (T10_.setTop (mkF mM 101 #[.val (.long q1), .second, .val (.long q2), .second, .val (.int p3), .val (.int p4), .val (.int p5), .val (.int p6), .val (.long b), .second, .val (.double d1), .second, .val (.double d2), .second, .val (.double d3), .second, .val (.ref b2_), .val (.ref b5_), .val (.int (1 : Int32))] [(.ref b2_)])) tT
      exact kK
    obtain ⟨cq16_, kq16_, q16_a, q16_b, q16_c⟩ := isOf hZ rfl fc11_
    obtain ⟨_, _, ⟨T16_, L16_, k16_, n16_⟩, -, X16_, ⟨Lc16_, hQ16_, l16_, y16_, z16_⟩, st16_⟩ := X10_.virtualBack hx (y := (⟨"com/example/needlework/needlework/cli/Bench$Result", "agree", "()Z"⟩ : MethodName)) (z := (⟨"com/example/needlework/needlework/cli/Bench$Result", "agree", "()Z"⟩ : MethodName)) hown (mvT hZ (hw _ (List.mem_of_getElem? (i := 26) rfl))) (mvT hZ (hw _ (List.mem_of_getElem? (i := 27) rfl))) (notFace_of_selects (args := #[]) (mvT hZ (hw _ (List.mem_of_getElem? (i := 29) rfl)))) (mvT hZ (hw _ (List.mem_of_getElem? (i := 29) rfl))) (mvT hZ (hw _ (List.mem_of_getElem? (i := 28) rfl))) (by decide) (backOf (W := 0) (rm_agree lL Z a0 hw [] b2_ q1 b T10_.heap n0 (Nat.le_trans Z0 K10_.1) fc12_ fc13_) hZ (hw _ (List.mem_of_getElem? (i := 30) rfl)) (hw _ (List.mem_of_getElem? (i := 4) rfl)) (by decide) (by decide)) q16_a q16_c (g := (mkF mM 101 #[.val (.long q1), .second, .val (.long q2), .second, .val (.int p3), .val (.int p4), .val (.int p5), .val (.int p6), .val (.long b), .second, .val (.double d1), .second, .val (.double d2), .second, .val (.double d3), .second, .val (.ref b2_), .val (.ref b5_), .val (.int (1 : Int32))] [(.ref b2_)])) rfl (by rw [hml]; rfl) (Steps.refl _) (argsL := []) (rest := []) (lenOf own_pd2 rfl) rfl (by show 2 * 0 + _ ≤ _; exact Nat.le_of_eq rfl) (Jvm.hb hby at_101) (fun _ _ => ⟨rfl, rfl, (by decide : 2 + 0 ≤ _), (by decide : 10 + 0 ≤ _)⟩)
    dsimp only [Pt.U, Pt.locs, Pt.cells, Pt.slots] at X16_ l16_ y16_ z16_ st16_ hQ16_
    subst l16_ y16_ z16_
    obtain ⟨rfl, N16_q, p16__0⟩ := hQ16_
    have N16_ := Fr.app N10_ N16_q
    refine own_fin (fun tT kK => st16_.trans kK) ?_
    show own_Fin pP eE below _ (T16_.setTop (mkF mM 104 #[.val (.long q1), .second, .val (.long q2), .second, .val (.int p3), .val (.int p4), .val (.int p5), .val (.int p6), .val (.long b), .second, .val (.double d1), .second, .val (.double d2), .second, .val (.double d3), .second, .val (.ref b2_), .val (.ref b5_), .val (.int (1 : Int32))] [(.int (if q1 = b then (1 : Int32) else (0 : Int32)))]))
    refine own_fin (b := T16_.setTop (mkF mM 111 #[.val (.long q1), .second, .val (.long q2), .second, .val (.int p3), .val (.int p4), .val (.int p5), .val (.int p6), .val (.long b), .second, .val (.double d1), .second, .val (.double d2), .second, .val (.double d3), .second, .val (.ref b2_), .val (.ref b5_), .val (.int (1 : Int32))] [(.ref b5_)])) (fun tT kK => ?_) ?_
    · show Steps pP.tables eE below (T16_.setTop (mkF mM 104 #[.val (.long q1), .second, .val (.long q2), .second, .val (.int p3), .val (.int p4), .val (.int p5), .val (.int p6), .val (.long b), .second, .val (.double d1), .second, .val (.double d2), .second, .val (.double d3), .second, .val (.ref b2_), .val (.ref b5_), .val (.int (1 : Int32))] [(.int (if q1 = b then (1 : Int32) else (0 : Int32)))])) tT
      refine XS.iload X16_.here hx rfl (Jvm.hb hby at_104) rfl ?_
      show Steps pP.tables eE below (T16_.setTop (mkF mM 106 #[.val (.long q1), .second, .val (.long q2), .second, .val (.int p3), .val (.int p4), .val (.int p5), .val (.int p6), .val (.long b), .second, .val (.double d1), .second, .val (.double d2), .second, .val (.double d3), .second, .val (.ref b2_), .val (.ref b5_), .val (.int (1 : Int32))] [(.int (1 : Int32)), (.int (if q1 = b then (1 : Int32) else (0 : Int32)))])) tT
      refine XS.icmpNo X16_.here hx rfl (Jvm.hb hby at_106) rfl (teq (if_pos ((own_x _ _).mp hc89_15_) : (if q1 = b then (1 : Int32) else (0 : Int32)) = (1 : Int32))).2 ?_
      show Steps pP.tables eE below (T16_.setTop (mkF mM 109 #[.val (.long q1), .second, .val (.long q2), .second, .val (.int p3), .val (.int p4), .val (.int p5), .val (.int p6), .val (.long b), .second, .val (.double d1), .second, .val (.double d2), .second, .val (.double d3), .second, .val (.ref b2_), .val (.ref b5_), .val (.int (1 : Int32))] [])) tT
      refine XS.aload X16_.here hx rfl (Jvm.hb hby at_109) rfl rfl ?_
      show Steps pP.tables eE below (T16_.setTop (mkF mM 111 #[.val (.long q1), .second, .val (.long q2), .second, .val (.int p3), .val (.int p4), .val (.int p5), .val (.int p6), .val (.long b), .second, .val (.double d1), .second, .val (.double d2), .second, .val (.double d3), .second, .val (.ref b2_), .val (.ref b5_), .val (.int (1 : Int32))] [(.ref b5_)])) tT
      exact kK
    obtain ⟨cq17_, kq17_, q17_a, q17_b, q17_c⟩ := isOf hZ p16__0 p10__1
    obtain ⟨_, _, ⟨T17_, L17_, k17_, n17_⟩, -, X17_, ⟨Lc17_, hQ17_, l17_, y17_, z17_⟩, st17_⟩ := X16_.virtualBack hx (y := (⟨"com/example/needlework/needlework/cli/Bench$Result", "agree", "()Z"⟩ : MethodName)) (z := (⟨"com/example/needlework/needlework/cli/Bench$Result", "agree", "()Z"⟩ : MethodName)) hown (mvT hZ (hw _ (List.mem_of_getElem? (i := 26) rfl))) (mvT hZ (hw _ (List.mem_of_getElem? (i := 27) rfl))) (notFace_of_selects (args := #[]) (mvT hZ (hw _ (List.mem_of_getElem? (i := 29) rfl)))) (mvT hZ (hw _ (List.mem_of_getElem? (i := 29) rfl))) (mvT hZ (hw _ (List.mem_of_getElem? (i := 28) rfl))) (by decide) (backOf (W := 0) (rm_agree lL Z a0 hw [] b5_ b q1 T10_.heap n0 (Nat.le_trans Z0 K10_.1) p10__2 p10__3) hZ (hw _ (List.mem_of_getElem? (i := 30) rfl)) (hw _ (List.mem_of_getElem? (i := 4) rfl)) (by decide) (by decide)) q17_a q17_c (g := (mkF mM 111 #[.val (.long q1), .second, .val (.long q2), .second, .val (.int p3), .val (.int p4), .val (.int p5), .val (.int p6), .val (.long b), .second, .val (.double d1), .second, .val (.double d2), .second, .val (.double d3), .second, .val (.ref b2_), .val (.ref b5_), .val (.int (1 : Int32))] [(.ref b5_)])) rfl (by rw [hml]; rfl) (Steps.refl _) (argsL := []) (rest := []) (lenOf own_pd2 rfl) rfl (by show 2 * 0 + _ ≤ _; exact Nat.le_of_eq rfl) (Jvm.hb hby at_111) (fun _ _ => ⟨rfl, p16__0, (by decide : 2 + 0 ≤ _), (by decide : 10 + 0 ≤ _)⟩)
    dsimp only [Pt.U, Pt.locs, Pt.cells, Pt.slots] at X17_ l17_ y17_ z17_ st17_ hQ17_
    subst l17_ y17_ z17_
    obtain ⟨rfl, N17_q, p17__0⟩ := hQ17_
    have N17_ := Fr.app N16_ N17_q
    refine own_fin (fun tT kK => st17_.trans kK) ?_
    show own_Fin pP eE below _ (T17_.setTop (mkF mM 114 #[.val (.long q1), .second, .val (.long q2), .second, .val (.int p3), .val (.int p4), .val (.int p5), .val (.int p6), .val (.long b), .second, .val (.double d1), .second, .val (.double d2), .second, .val (.double d3), .second, .val (.ref b2_), .val (.ref b5_), .val (.int (1 : Int32))] [(.int (if b = q1 then (1 : Int32) else (0 : Int32)))]))
    refine own_fin (b := T17_.setTop (mkF mM 124 #[.val (.long q1), .second, .val (.long q2), .second, .val (.int p3), .val (.int p4), .val (.int p5), .val (.int p6), .val (.long b), .second, .val (.double d1), .second, .val (.double d2), .second, .val (.double d3), .second, .val (.ref b2_), .val (.ref b5_), .val (.int (1 : Int32))] [(.int (1 : Int32))])) (fun tT kK => ?_) ?_
    · show Steps pP.tables eE below (T17_.setTop (mkF mM 114 #[.val (.long q1), .second, .val (.long q2), .second, .val (.int p3), .val (.int p4), .val (.int p5), .val (.int p6), .val (.long b), .second, .val (.double d1), .second, .val (.double d2), .second, .val (.double d3), .second, .val (.ref b2_), .val (.ref b5_), .val (.int (1 : Int32))] [(.int (if b = q1 then (1 : Int32) else (0 : Int32)))])) tT
      refine XS.iload X17_.here hx rfl (Jvm.hb hby at_114) rfl ?_
      show Steps pP.tables eE below (T17_.setTop (mkF mM 116 #[.val (.long q1), .second, .val (.long q2), .second, .val (.int p3), .val (.int p4), .val (.int p5), .val (.int p6), .val (.long b), .second, .val (.double d1), .second, .val (.double d2), .second, .val (.double d3), .second, .val (.ref b2_), .val (.ref b5_), .val (.int (1 : Int32))] [(.int (1 : Int32)), (.int (if b = q1 then (1 : Int32) else (0 : Int32)))])) tT
      refine XS.icmpNo X17_.here hx rfl (Jvm.hb hby at_116) rfl (teq (if_pos ((own_x _ _).mp hc89_15_).symm : (if b = q1 then (1 : Int32) else (0 : Int32)) = (1 : Int32))).2 ?_
      show Steps pP.tables eE below (T17_.setTop (mkF mM 119 #[.val (.long q1), .second, .val (.long q2), .second, .val (.int p3), .val (.int p4), .val (.int p5), .val (.int p6), .val (.long b), .second, .val (.double d1), .second, .val (.double d2), .second, .val (.double d3), .second, .val (.ref b2_), .val (.ref b5_), .val (.int (1 : Int32))] [])) tT
      refine XS.iconst X17_.here hx rfl (Jvm.hb hby at_119) ?_
      show Steps pP.tables eE below (T17_.setTop (mkF mM 120 #[.val (.long q1), .second, .val (.long q2), .second, .val (.int p3), .val (.int p4), .val (.int p5), .val (.int p6), .val (.long b), .second, .val (.double d1), .second, .val (.double d2), .second, .val (.double d3), .second, .val (.ref b2_), .val (.ref b5_), .val (.int (1 : Int32))] [(.int (1 : Int32))])) tT
      refine XS.goto X17_.here hx rfl (pc0 := 120) (pc' := 124) rfl (Jvm.hb hby at_120) (by decide) (by decide) ?_
      show Steps pP.tables eE below (T17_.setTop (mkF mM 124 #[.val (.long q1), .second, .val (.long q2), .second, .val (.int p3), .val (.int p4), .val (.int p5), .val (.int p6), .val (.long b), .second, .val (.double d1), .second, .val (.double d2), .second, .val (.double d3), .second, .val (.ref b2_), .val (.ref b5_), .val (.int (1 : Int32))] [(.int (1 : Int32))])) tT
      exact kK
    obtain ⟨fs, hr, hrun, hended, hW, hsame⟩ := X17_.leave (v := some (.int (1 : Int32))) (fun h => by rw [Bd.returns] at h; cases h)
    refine ⟨_, _, ?_, hrun, hended, _, _, rfl, ?_, ⟨_, rfl⟩, hW, hsame.mono (by decide) (by decide)⟩
    · show Steps pP.tables eE below (T17_.setTop (mkF mM 124 #[.val (.long q1), .second, .val (.long q2), .second, .val (.int p3), .val (.int p4), .val (.int p5), .val (.int p6), .val (.long b), .second, .val (.double d1), .second, .val (.double d2), .second, .val (.double d3), .second, .val (.ref b2_), .val (.ref b5_), .val (.int (1 : Int32))] [(.int (1 : Int32))])) _
      exact retN X17_ hx (t := .boolean) Bd.returns (by simp) (Jvm.hb hby at_124) hr
    · show Q_rm0 Z q1 q2 p3 p4 p5 p6 h0 n0 _ T17_.heap _
      rw [p17__0]
      exact ⟨rfl, N17_⟩
  · refine own_fin (b := T10_.setTop (mkF mM 101 #[.val (.long q1), .second, .val (.long q2), .second, .val (.int p3), .val (.int p4), .val (.int p5), .val (.int p6), .val (.long b), .second, .val (.double d1), .second, .val (.double d2), .second, .val (.double d3), .second, .val (.ref b2_), .val (.ref b5_), .val (.int (0 : Int32))] [(.ref b2_)])) (fun tT kK => ?_) ?_
    · show Steps pP.tables eE below (T10_.setTop (mkF mM 89 #[.val (.long q1), .second, .val (.long q2), .second, .val (.int p3), .val (.int p4), .val (.int p5), .val (.int p6), .val (.long b), .second, .val (.double d1), .second, .val (.double d2), .second, .val (.double d3), .second, .val (.ref b2_), .val (.ref b5_), .unset] [(.int (lcmpW (q1 ^^^ b) (0 : Int64)))])) tT
      refine XS.ifYes X10_.here hx rfl (pc0 := 89) (pc' := 96) rfl (Jvm.hb hby at_89) rfl ((if0 _ _).trans (feq (mt (lw_eq (q1 ^^^ b) (0 : Int64)).mp (hc89_15_ : ¬ ((q1 ^^^ b) = (0 : Int64))))).2) (by decide) (by decide) ?_
      show Steps pP.tables eE below (T10_.setTop (mkF mM 96 #[.val (.long q1), .second, .val (.long q2), .second, .val (.int p3), .val (.int p4), .val (.int p5), .val (.int p6), .val (.long b), .second, .val (.double d1), .second, .val (.double d2), .second, .val (.double d3), .second, .val (.ref b2_), .val (.ref b5_), .unset] [])) tT
      refine XS.iconst X10_.here hx rfl (Jvm.hb hby at_96) ?_
      show Steps pP.tables eE below (T10_.setTop (mkF mM 97 #[.val (.long q1), .second, .val (.long q2), .second, .val (.int p3), .val (.int p4), .val (.int p5), .val (.int p6), .val (.long b), .second, .val (.double d1), .second, .val (.double d2), .second, .val (.double d3), .second, .val (.ref b2_), .val (.ref b5_), .unset] [(.int (0 : Int32))])) tT
      refine XS.istore X10_.here hx rfl (Jvm.hb hby at_97) rfl (l' := #[.val (.long q1), .second, .val (.long q2), .second, .val (.int p3), .val (.int p4), .val (.int p5), .val (.int p6), .val (.long b), .second, .val (.double d1), .second, .val (.double d2), .second, .val (.double d3), .second, .val (.ref b2_), .val (.ref b5_), .val (.int (0 : Int32))]) rfl ?_
      show Steps pP.tables eE below (T10_.setTop (mkF mM 99 #[.val (.long q1), .second, .val (.long q2), .second, .val (.int p3), .val (.int p4), .val (.int p5), .val (.int p6), .val (.long b), .second, .val (.double d1), .second, .val (.double d2), .second, .val (.double d3), .second, .val (.ref b2_), .val (.ref b5_), .val (.int (0 : Int32))] [])) tT
      refine XS.aload X10_.here hx rfl (Jvm.hb hby at_99) rfl rfl ?_
      show Steps pP.tables eE below (T10_.setTop (mkF mM 101 #[.val (.long q1), .second, .val (.long q2), .second, .val (.int p3), .val (.int p4), .val (.int p5), .val (.int p6), .val (.long b), .second, .val (.double d1), .second, .val (.double d2), .second, .val (.double d3), .second, .val (.ref b2_), .val (.ref b5_), .val (.int (0 : Int32))] [(.ref b2_)])) tT
      exact kK
    obtain ⟨cq18_, kq18_, q18_a, q18_b, q18_c⟩ := isOf hZ rfl fc11_
    obtain ⟨_, _, ⟨T18_, L18_, k18_, n18_⟩, -, X18_, ⟨Lc18_, hQ18_, l18_, y18_, z18_⟩, st18_⟩ := X10_.virtualBack hx (y := (⟨"com/example/needlework/needlework/cli/Bench$Result", "agree", "()Z"⟩ : MethodName)) (z := (⟨"com/example/needlework/needlework/cli/Bench$Result", "agree", "()Z"⟩ : MethodName)) hown (mvT hZ (hw _ (List.mem_of_getElem? (i := 26) rfl))) (mvT hZ (hw _ (List.mem_of_getElem? (i := 27) rfl))) (notFace_of_selects (args := #[]) (mvT hZ (hw _ (List.mem_of_getElem? (i := 29) rfl)))) (mvT hZ (hw _ (List.mem_of_getElem? (i := 29) rfl))) (mvT hZ (hw _ (List.mem_of_getElem? (i := 28) rfl))) (by decide) (backOf (W := 0) (rm_agree lL Z a0 hw [] b2_ q1 b T10_.heap n0 (Nat.le_trans Z0 K10_.1) fc12_ fc13_) hZ (hw _ (List.mem_of_getElem? (i := 30) rfl)) (hw _ (List.mem_of_getElem? (i := 4) rfl)) (by decide) (by decide)) q18_a q18_c (g := (mkF mM 101 #[.val (.long q1), .second, .val (.long q2), .second, .val (.int p3), .val (.int p4), .val (.int p5), .val (.int p6), .val (.long b), .second, .val (.double d1), .second, .val (.double d2), .second, .val (.double d3), .second, .val (.ref b2_), .val (.ref b5_), .val (.int (0 : Int32))] [(.ref b2_)])) rfl (by rw [hml]; rfl) (Steps.refl _) (argsL := []) (rest := []) (lenOf own_pd2 rfl) rfl (by show 2 * 0 + _ ≤ _; exact Nat.le_of_eq rfl) (Jvm.hb hby at_101) (fun _ _ => ⟨rfl, rfl, (by decide : 2 + 0 ≤ _), (by decide : 10 + 0 ≤ _)⟩)
    dsimp only [Pt.U, Pt.locs, Pt.cells, Pt.slots] at X18_ l18_ y18_ z18_ st18_ hQ18_
    subst l18_ y18_ z18_
    obtain ⟨rfl, N18_q, p18__0⟩ := hQ18_
    have N18_ := Fr.app N10_ N18_q
    refine own_fin (fun tT kK => st18_.trans kK) ?_
    show own_Fin pP eE below _ (T18_.setTop (mkF mM 104 #[.val (.long q1), .second, .val (.long q2), .second, .val (.int p3), .val (.int p4), .val (.int p5), .val (.int p6), .val (.long b), .second, .val (.double d1), .second, .val (.double d2), .second, .val (.double d3), .second, .val (.ref b2_), .val (.ref b5_), .val (.int (0 : Int32))] [(.int (if q1 = b then (1 : Int32) else (0 : Int32)))]))
    refine own_fin (b := T18_.setTop (mkF mM 111 #[.val (.long q1), .second, .val (.long q2), .second, .val (.int p3), .val (.int p4), .val (.int p5), .val (.int p6), .val (.long b), .second, .val (.double d1), .second, .val (.double d2), .second, .val (.double d3), .second, .val (.ref b2_), .val (.ref b5_), .val (.int (0 : Int32))] [(.ref b5_)])) (fun tT kK => ?_) ?_
    · show Steps pP.tables eE below (T18_.setTop (mkF mM 104 #[.val (.long q1), .second, .val (.long q2), .second, .val (.int p3), .val (.int p4), .val (.int p5), .val (.int p6), .val (.long b), .second, .val (.double d1), .second, .val (.double d2), .second, .val (.double d3), .second, .val (.ref b2_), .val (.ref b5_), .val (.int (0 : Int32))] [(.int (if q1 = b then (1 : Int32) else (0 : Int32)))])) tT
      refine XS.iload X18_.here hx rfl (Jvm.hb hby at_104) rfl ?_
      show Steps pP.tables eE below (T18_.setTop (mkF mM 106 #[.val (.long q1), .second, .val (.long q2), .second, .val (.int p3), .val (.int p4), .val (.int p5), .val (.int p6), .val (.long b), .second, .val (.double d1), .second, .val (.double d2), .second, .val (.double d3), .second, .val (.ref b2_), .val (.ref b5_), .val (.int (0 : Int32))] [(.int (0 : Int32)), (.int (if q1 = b then (1 : Int32) else (0 : Int32)))])) tT
      refine XS.icmpNo X18_.here hx rfl (Jvm.hb hby at_106) rfl (teq (if_neg (mt (own_x _ _).mpr hc89_15_) : (if q1 = b then (1 : Int32) else (0 : Int32)) = (0 : Int32))).2 ?_
      show Steps pP.tables eE below (T18_.setTop (mkF mM 109 #[.val (.long q1), .second, .val (.long q2), .second, .val (.int p3), .val (.int p4), .val (.int p5), .val (.int p6), .val (.long b), .second, .val (.double d1), .second, .val (.double d2), .second, .val (.double d3), .second, .val (.ref b2_), .val (.ref b5_), .val (.int (0 : Int32))] [])) tT
      refine XS.aload X18_.here hx rfl (Jvm.hb hby at_109) rfl rfl ?_
      show Steps pP.tables eE below (T18_.setTop (mkF mM 111 #[.val (.long q1), .second, .val (.long q2), .second, .val (.int p3), .val (.int p4), .val (.int p5), .val (.int p6), .val (.long b), .second, .val (.double d1), .second, .val (.double d2), .second, .val (.double d3), .second, .val (.ref b2_), .val (.ref b5_), .val (.int (0 : Int32))] [(.ref b5_)])) tT
      exact kK
    obtain ⟨cq19_, kq19_, q19_a, q19_b, q19_c⟩ := isOf hZ p18__0 p10__1
    obtain ⟨_, _, ⟨T19_, L19_, k19_, n19_⟩, -, X19_, ⟨Lc19_, hQ19_, l19_, y19_, z19_⟩, st19_⟩ := X18_.virtualBack hx (y := (⟨"com/example/needlework/needlework/cli/Bench$Result", "agree", "()Z"⟩ : MethodName)) (z := (⟨"com/example/needlework/needlework/cli/Bench$Result", "agree", "()Z"⟩ : MethodName)) hown (mvT hZ (hw _ (List.mem_of_getElem? (i := 26) rfl))) (mvT hZ (hw _ (List.mem_of_getElem? (i := 27) rfl))) (notFace_of_selects (args := #[]) (mvT hZ (hw _ (List.mem_of_getElem? (i := 29) rfl)))) (mvT hZ (hw _ (List.mem_of_getElem? (i := 29) rfl))) (mvT hZ (hw _ (List.mem_of_getElem? (i := 28) rfl))) (by decide) (backOf (W := 0) (rm_agree lL Z a0 hw [] b5_ b q1 T10_.heap n0 (Nat.le_trans Z0 K10_.1) p10__2 p10__3) hZ (hw _ (List.mem_of_getElem? (i := 30) rfl)) (hw _ (List.mem_of_getElem? (i := 4) rfl)) (by decide) (by decide)) q19_a q19_c (g := (mkF mM 111 #[.val (.long q1), .second, .val (.long q2), .second, .val (.int p3), .val (.int p4), .val (.int p5), .val (.int p6), .val (.long b), .second, .val (.double d1), .second, .val (.double d2), .second, .val (.double d3), .second, .val (.ref b2_), .val (.ref b5_), .val (.int (0 : Int32))] [(.ref b5_)])) rfl (by rw [hml]; rfl) (Steps.refl _) (argsL := []) (rest := []) (lenOf own_pd2 rfl) rfl (by show 2 * 0 + _ ≤ _; exact Nat.le_of_eq rfl) (Jvm.hb hby at_111) (fun _ _ => ⟨rfl, p18__0, (by decide : 2 + 0 ≤ _), (by decide : 10 + 0 ≤ _)⟩)
    dsimp only [Pt.U, Pt.locs, Pt.cells, Pt.slots] at X19_ l19_ y19_ z19_ st19_ hQ19_
    subst l19_ y19_ z19_
    obtain ⟨rfl, N19_q, p19__0⟩ := hQ19_
    have N19_ := Fr.app N18_ N19_q
    refine own_fin (fun tT kK => st19_.trans kK) ?_
    show own_Fin pP eE below _ (T19_.setTop (mkF mM 114 #[.val (.long q1), .second, .val (.long q2), .second, .val (.int p3), .val (.int p4), .val (.int p5), .val (.int p6), .val (.long b), .second, .val (.double d1), .second, .val (.double d2), .second, .val (.double d3), .second, .val (.ref b2_), .val (.ref b5_), .val (.int (0 : Int32))] [(.int (if b = q1 then (1 : Int32) else (0 : Int32)))]))
    refine own_fin (b := T19_.setTop (mkF mM 124 #[.val (.long q1), .second, .val (.long q2), .second, .val (.int p3), .val (.int p4), .val (.int p5), .val (.int p6), .val (.long b), .second, .val (.double d1), .second, .val (.double d2), .second, .val (.double d3), .second, .val (.ref b2_), .val (.ref b5_), .val (.int (0 : Int32))] [(.int (1 : Int32))])) (fun tT kK => ?_) ?_
    · show Steps pP.tables eE below (T19_.setTop (mkF mM 114 #[.val (.long q1), .second, .val (.long q2), .second, .val (.int p3), .val (.int p4), .val (.int p5), .val (.int p6), .val (.long b), .second, .val (.double d1), .second, .val (.double d2), .second, .val (.double d3), .second, .val (.ref b2_), .val (.ref b5_), .val (.int (0 : Int32))] [(.int (if b = q1 then (1 : Int32) else (0 : Int32)))])) tT
      refine XS.iload X19_.here hx rfl (Jvm.hb hby at_114) rfl ?_
      show Steps pP.tables eE below (T19_.setTop (mkF mM 116 #[.val (.long q1), .second, .val (.long q2), .second, .val (.int p3), .val (.int p4), .val (.int p5), .val (.int p6), .val (.long b), .second, .val (.double d1), .second, .val (.double d2), .second, .val (.double d3), .second, .val (.ref b2_), .val (.ref b5_), .val (.int (0 : Int32))] [(.int (0 : Int32)), (.int (if b = q1 then (1 : Int32) else (0 : Int32)))])) tT
      refine XS.icmpNo X19_.here hx rfl (Jvm.hb hby at_116) rfl (teq (if_neg fun q => hc89_15_ ((own_x _ _).mpr q.symm) : (if b = q1 then (1 : Int32) else (0 : Int32)) = (0 : Int32))).2 ?_
      show Steps pP.tables eE below (T19_.setTop (mkF mM 119 #[.val (.long q1), .second, .val (.long q2), .second, .val (.int p3), .val (.int p4), .val (.int p5), .val (.int p6), .val (.long b), .second, .val (.double d1), .second, .val (.double d2), .second, .val (.double d3), .second, .val (.ref b2_), .val (.ref b5_), .val (.int (0 : Int32))] [])) tT
      refine XS.iconst X19_.here hx rfl (Jvm.hb hby at_119) ?_
      show Steps pP.tables eE below (T19_.setTop (mkF mM 120 #[.val (.long q1), .second, .val (.long q2), .second, .val (.int p3), .val (.int p4), .val (.int p5), .val (.int p6), .val (.long b), .second, .val (.double d1), .second, .val (.double d2), .second, .val (.double d3), .second, .val (.ref b2_), .val (.ref b5_), .val (.int (0 : Int32))] [(.int (1 : Int32))])) tT
      refine XS.goto X19_.here hx rfl (pc0 := 120) (pc' := 124) rfl (Jvm.hb hby at_120) (by decide) (by decide) ?_
      show Steps pP.tables eE below (T19_.setTop (mkF mM 124 #[.val (.long q1), .second, .val (.long q2), .second, .val (.int p3), .val (.int p4), .val (.int p5), .val (.int p6), .val (.long b), .second, .val (.double d1), .second, .val (.double d2), .second, .val (.double d3), .second, .val (.ref b2_), .val (.ref b5_), .val (.int (0 : Int32))] [(.int (1 : Int32))])) tT
      exact kK
    obtain ⟨fs, hr, hrun, hended, hW, hsame⟩ := X19_.leave (v := some (.int (1 : Int32))) (fun h => by rw [Bd.returns] at h; cases h)
    refine ⟨_, _, ?_, hrun, hended, _, _, rfl, ?_, ⟨_, rfl⟩, hW, hsame.mono (by decide) (by decide)⟩
    · show Steps pP.tables eE below (T19_.setTop (mkF mM 124 #[.val (.long q1), .second, .val (.long q2), .second, .val (.int p3), .val (.int p4), .val (.int p5), .val (.int p6), .val (.long b), .second, .val (.double d1), .second, .val (.double d2), .second, .val (.double d3), .second, .val (.ref b2_), .val (.ref b5_), .val (.int (0 : Int32))] [(.int (1 : Int32))])) _
      exact retN X19_ hx (t := .boolean) Bd.returns (by simp) (Jvm.hb hby at_124) hr
    · show Q_rm0 Z q1 q2 p3 p4 p5 p6 h0 n0 _ T19_.heap _
      rw [p19__0]
      exact ⟨rfl, N19_⟩
set_option maxRecDepth 65536 in
set_option maxHeartbeats 40000000 in
theorem comes_1 {Post : Tables → Env → Array Value → State → Outcome → State → Prop} (hpost : ∀ tb e args s v u, (limb_1_1.after args s (.returned v) u = true ∧ limb_1_2.after args s (.returned v) u = true ∧ True) → FrameEnd s (.returned v) u (Jvm.fieldLocs frame_1_writes args s ++ Jvm.arrayLocs frame_1_arrays args s ++ Jvm.staticLocs frame_1_statics s) 16 128 → Post tb e args s (.returned v) u) :
    ArmFor flags0 classFile x code maxLocals ret World_1 tables_1 room_1 Calls_1 rest_1 Pre_1 Post := by
  intro l hfl _ _ p e ha hc hk s m args below hf hA hF happ hP
  obtain ⟨hcalls, hrest, hpre⟩ := hP
  obtain ⟨-, -, -, hnamed, -, -, -, hat⟩ := (Spec.applies_iff hf).mp happ
  obtain ⟨hg, hn⟩ := and_e (Cond.before_iff.mp (show (Jvm.Cond.and given_1 narrow_1).before args s = true from hpre))
  obtain ⟨gg1, gg2⟩ := and_e hg
  obtain ⟨gg3, gg4⟩ := and_e gg2
  obtain ⟨gg5, gg6⟩ := and_e gg4
  obtain ⟨gg7, gg8⟩ := and_e gg6
  obtain ⟨gg9, gg10⟩ := and_e gg8
  obtain ⟨gg11, gg12⟩ := and_e gg10
  obtain ⟨w0, w1, w2, w3, w4, w5, rfl⟩ : ∃ w0 w1 w2 w3 w4 w5 : Value, args = #[w0, w1, w2, w3, w4, w5] := by
    have hs : args.size = 6 := by simpa [Cond.value, given_1] using gg1
    obtain ⟨L⟩ := args
    match L, hs with
    | [w0, w1, w2, w3, w4, w5], _ => exact ⟨w0, w1, w2, w3, w4, w5, rfl⟩
  have hw := fun d (hd : d ∈ tables_1) => atoms_spec (ws := Jvm.Cond.code x code maxLocals ret :: tables_1) hat d (List.mem_cons_of_mem _ hd)
  have hfit : Fit s := fun {y c} hc i hi => by
    obtain ⟨ha, rfl⟩ := Array.getElem?_eq_some_iff.mp hc
    have q := List.all_eq_true.mp ((Array.all_eq_true_iff_forall_mem.mp hF) _ (Array.getElem_mem ha)) i (List.mem_range.mpr hi)
    simpa [Array.getElem?_eq_getElem hi] using q
  obtain ⟨i0, ei0⟩ := isL_v gg3
  obtain rfl : w0 = (.long i0) := Option.some.inj ei0
  obtain ⟨i1, ei1⟩ := isL_v gg5
  obtain rfl : w1 = (.long i1) := Option.some.inj ei1
  obtain ⟨i2, ei2⟩ := is_v gg7
  obtain rfl : w2 = (.int i2) := Option.some.inj ei2
  obtain ⟨i3, ei3⟩ := is_v gg9
  obtain rfl : w3 = (.int i3) := Option.some.inj ei3
  obtain ⟨i4, ei4⟩ := is_v gg11
  obtain rfl : w4 = (.int i4) := Option.some.inj ei4
  obtain ⟨i5, ei5⟩ := is_v gg12
  obtain rfl : w5 = (.int i5) := Option.some.inj ei5
  obtain ⟨n, o, h1, h2, h3, _, L, rfl, ⟨rfl, N⟩, hq⟩ := rm0 l s _ hw tables_1 i0 i1 i2 i3 i4 i5 s.heap s.heap.size (Nat.le_refl _)  p e ha hc hk s m _ below hf ((Spec.applies_iff_loose hf).mp happ).1 ⟨rfl, State.Warmed39.refl s, rfl⟩ trivial
  refine ⟨n, _, h1, h2, h3, hpost _ _ _ _ _ _ ⟨Cond.after_iff.mpr rfl, Cond.after_iff.mpr (eq_i res_at (Term.int_eval (1)) rfl), trivial⟩ ⟨hq.1, hq.2.1, (hq.2.2.sift fun y hy => Or.inr (N y hy)).mono (by decide) (by decide)⟩⟩
theorem main_1_1 : Claimed_1_1 := comes_1 fun _ _ _ _ _ _ h hF => ⟨h.1, hF⟩
theorem main_1_2 : Claimed_1_2 := comes_1 fun _ _ _ _ _ _ h hF => ⟨h.2.1, hF⟩
end Jvm.Pilot.@@N@@
namespace Jvm.Pilot.@@N@@
open Jvm Jvm.ClassFile Sem Op Lib Jvm.Free Jvm.Stand Jvm.Pilot.@@N@@.Jvm.D
/-! MADE BY PROGRAM (witnessworld.py) out of the Statement's table words and the real class files: 10 classes; the members and pool entries that the words name. The judged class is class 1, her method 1. -/
namespace start1
open Jvm.ClassFile
def u (s : String) : CpInfo := .utf8 (stringToUtf16 s)
/-- a pool by its gaps: so many unusable entries, then the entry; so many at the end -/
def gap : Nat → List CpInfo → List CpInfo
  | 0, r => r
  | n + 1, r => .unusable :: gap n r
def poolList (es : List (Nat × CpInfo)) (last : Nat) : List CpInfo := es.foldr (fun e r => gap e.1 (e.2 :: r)) (gap last [])
def pool (es : List (Nat × CpInfo)) (last : Nat) : Array CpInfo := ⟨poolList es last⟩
def fileOf (pool : Array CpInfo) (this : Nat) (attrs : Array Attribute := #[]) (ms : Array MethodInfo := #[]) (fl : Nat := 33) (sup : Nat := 0) (ifs : Array Nat := #[]) (fds : Array FieldInfo := #[]) : ClassFile where
  minorVersion := 0
  majorVersion := 65
  constantPool := pool
  accessFlags := fl
  thisClass := this
  superClass := sup
  interfaces := ifs
  fields := fds
  methods := ms
  attributes := attrs
def plain (name : String) (sup : Option ClassId) : Class where
  name := name
  kind := .ordinary
  loader := none
  accessFlags := 33
  super := sup
  interfaces := #[]
  cf := none
  fields := #[]
  methods := #[]
  instanceTypes := #[]
  staticTypes := #[]
  resolved := #[]
  callSites := []
  init := .initialized
  statics := none
  mirror := none

def pool0 : Array CpInfo := pool [(5, u "<init>"), (0, u "()V"), (1, .class_ 10), (1, u "java/lang/Object")] 113

def k0c0 : Code := { maxStack := 0, maxLocals := 1, code := object_method_1_code, exceptionTable := #[], attributes := #[] }
def k0m0 : Method := { name := "<init>", desc := "()V", sig := { parameters := [], returnType := none }, accessFlags := 1, code := some k0c0 }
/-- java/lang/Object -/
def k0 : Class := { plain "java/lang/Object" none with
  accessFlags := 33
  interfaces := #[]
  cf := some (fileOf pool0 8 #[] #[{ accessFlags := 1, nameIndex := 5, descriptorIndex := 6, attributes := #[] }] 33 0 #[] #[])
  fields := #[]
  methods := #[k0m0]
  instanceTypes := #[]
  staticTypes := #[]
  resolved := Array.replicate 124 none
  statics := none }

def pool1 : Array CpInfo := pool [(2, .class_ 4), (1, u "java/lang/Object"), (0, u "<init>"), (0, u "()V"), (0, .integer 65535), (0, .integer 32768), (0, .class_ 10), (0, u "com/example/needlework/needlework/cli/Bench$Result"), (0, .methodref 9 12), (0, .nameAndType 5 13), (0, u "(JDJDD)V"), (0, .methodref 9 15), (0, .nameAndType 16 17), (0, u "agree"), (0, u "()Z"), (0, .class_ 19), (0, u "com/example/needlework/needlework/cli/ResultAgreePinLaw"), (2, u "law"), (0, u "(JJIIII)Z")] 7

def k1m0 : Method := { name := "<init>", desc := "()V", sig := { parameters := [], returnType := none }, accessFlags := 2, code := none }
def k1c1 : Code := { maxStack := 12, maxLocals := 19, code := code, exceptionTable := #[], attributes := #[] }
def k1m1 : Method := { name := "law", desc := "(JJIIII)Z", sig := { parameters := [.long, .long, .int, .int, .int, .int], returnType := some .boolean }, accessFlags := 9, code := some k1c1 }
/-- com/example/needlework/needlework/cli/ResultAgreePinLaw -/
def k1 : Class := { plain "com/example/needlework/needlework/cli/ResultAgreePinLaw" (some 0) with
  accessFlags := 49
  interfaces := #[]
  cf := some (fileOf pool1 18 #[] #[{ accessFlags := 2, nameIndex := 5, descriptorIndex := 6, attributes := #[] }, { accessFlags := 9, nameIndex := 22, descriptorIndex := 23, attributes := #[] }] 49 2 #[] #[])
  fields := #[]
  methods := #[k1m0, k1m1]
  instanceTypes := #[]
  staticTypes := #[]
  resolved := Array.replicate 31 none
  statics := none }

def pool2 : Array CpInfo := pool [(1, .methodref 2 3), (0, .class_ 4), (0, .nameAndType 5 6), (0, u "java/lang/Object"), (0, u "<init>"), (0, u "()V"), (0, .class_ 8), (0, u "java/lang/Record")] 13

def k2c0 : Code := { maxStack := 1, maxLocals := 1, code := jdk_30_method_1_code, exceptionTable := #[], attributes := #[] }
def k2m0 : Method := { name := "<init>", desc := "()V", sig := { parameters := [], returnType := none }, accessFlags := 4, code := some k2c0 }
/-- java/lang/Record -/
def k2 : Class := { plain "java/lang/Record" (some 0) with
  accessFlags := 1057
  interfaces := #[]
  cf := some (fileOf pool2 7 #[] #[{ accessFlags := 4, nameIndex := 5, descriptorIndex := 6, attributes := #[] }] 1057 2 #[] #[])
  fields := #[]
  methods := #[k2m0]
  instanceTypes := #[]
  staticTypes := #[]
  resolved := Array.replicate 22 none
  statics := none }

def pool3 : Array CpInfo := pool [(1, .methodref 2 3), (0, .class_ 4), (0, .nameAndType 5 6), (0, u "java/lang/Record"), (0, u "<init>"), (0, u "()V"), (0, .fieldref 8 9), (0, .class_ 10), (0, .nameAndType 11 12), (0, u "com/example/needlework/needlework/cli/Bench$Result"), (0, u "needleworkCount"), (0, u "J"), (0, .fieldref 8 14), (0, .nameAndType 15 16), (0, u "needleworkMillis"), (0, u "D"), (0, .fieldref 8 18), (0, .nameAndType 19 12), (0, u "indexOfCount"), (0, .fieldref 8 21), (0, .nameAndType 22 16), (0, u "indexOfMillis"), (0, .fieldref 8 24), (0, .nameAndType 25 16), (0, u "ratio"), (39, u "(JDJDD)V"), (3, u "agree"), (0, u "()Z"), (10, .class_ 82), (0, u "com/example/needlework/needlework/cli/Bench")] 23

def k3c0 : Code := { maxStack := 3, maxLocals := 11, code := prog_25_method_1_code, exceptionTable := #[], attributes := #[] }
def k3m0 : Method := { name := "<init>", desc := "(JDJDD)V", sig := { parameters := [.long, .double, .long, .double, .double], returnType := none }, accessFlags := 0, code := some k3c0 }
def k3c1 : Code := { maxStack := 4, maxLocals := 1, code := prog_25_method_2_code, exceptionTable := #[], attributes := #[] }
def k3m1 : Method := { name := "agree", desc := "()Z", sig := { parameters := [], returnType := some .boolean }, accessFlags := 0, code := some k3c1 }
/-- com/example/needlework/needlework/cli/Bench$Result -/
def k3 : Class := { plain "com/example/needlework/needlework/cli/Bench$Result" (some 2) with
  accessFlags := 48
  interfaces := #[]
  cf := some (fileOf pool3 8 #[.nestHost 81] #[{ accessFlags := 0, nameIndex := 5, descriptorIndex := 65, attributes := #[] }, { accessFlags := 0, nameIndex := 69, descriptorIndex := 70, attributes := #[] }] 48 2 #[] #[{ accessFlags := 18, nameIndex := 11, descriptorIndex := 12, attributes := #[] }, { accessFlags := 18, nameIndex := 15, descriptorIndex := 16, attributes := #[] }, { accessFlags := 18, nameIndex := 19, descriptorIndex := 12, attributes := #[] }, { accessFlags := 18, nameIndex := 22, descriptorIndex := 16, attributes := #[] }, { accessFlags := 18, nameIndex := 25, descriptorIndex := 16, attributes := #[] }])
  fields := #[{ name := "needleworkCount", type := .long, accessFlags := 18, slot := 0, constantValue := 0 }, { name := "needleworkMillis", type := .double, accessFlags := 18, slot := 1, constantValue := 0 }, { name := "indexOfCount", type := .long, accessFlags := 18, slot := 2, constantValue := 0 }, { name := "indexOfMillis", type := .double, accessFlags := 18, slot := 3, constantValue := 0 }, { name := "ratio", type := .double, accessFlags := 18, slot := 4, constantValue := 0 }]
  methods := #[k3m0, k3m1]
  instanceTypes := #[.long, .double, .long, .double, .double]
  staticTypes := #[]
  resolved := Array.replicate 106 none
  statics := none }

def pool4 : Array CpInfo := pool [(1, u "java/lang/Cloneable"), (0, .class_ 1), (0, u "java/lang/Object"), (0, .class_ 3)] 3

/-- java/lang/Cloneable -/
def k4 : Class := { plain "java/lang/Cloneable" (some 0) with
  accessFlags := 1537
  interfaces := #[]
  cf := some (fileOf pool4 2 #[] #[] 1537 4 #[] #[])
  fields := #[]
  methods := #[]
  instanceTypes := #[]
  staticTypes := #[]
  resolved := Array.replicate 8 none
  statics := none }

def pool5 : Array CpInfo := pool [(1, u "java/io/Serializable"), (0, .class_ 1), (0, u "java/lang/Object"), (0, .class_ 3)] 3

/-- java/io/Serializable -/
def k5 : Class := { plain "java/io/Serializable" (some 0) with
  accessFlags := 1537
  interfaces := #[]
  cf := some (fileOf pool5 2 #[] #[] 1537 4 #[] #[])
  fields := #[]
  methods := #[]
  instanceTypes := #[]
  staticTypes := #[]
  resolved := Array.replicate 8 none
  statics := none }

/-- the primitive byte -/
def k6 : Class := { plain "byte" none with kind := .primitive 'B', accessFlags := 0x411 }
/-- [B -/
def k7 : Class := { plain "[B" (some 0) with kind := .array 6 .byte, interfaces := #[4, 5], accessFlags := 1041 }

/-- the primitive int -/
def k8 : Class := { plain "int" none with kind := .primitive 'I', accessFlags := 0x411 }
/-- [I -/
def k9 : Class := { plain "[I" (some 0) with kind := .array 8 .int, interfaces := #[4, 5], accessFlags := 1041 }

def heap : Heap := #[]
def classes : Array Class := #[k0, k1, k2, k3, k4, k5, k6, k7, k8, k9]
def interned : List (Array UInt16 × Addr) := []
def slotsUsed : Nat := 0
def theMethod : MethodId := ⟨1, 1⟩
def args0 : Array Value := #[.long 5, .long 5, .int 5, .int 5, .int 5, .int 5]
def aboutOver (below : List Frame) : State where
  vm := { classes := classes, interned := interned.toArray }
  heap := heap
  slotsUsed := slotsUsed
  threads := #[{ frames := .invoking theMethod args0 :: below }]
def below0 : List Frame := [.native { method := ⟨0, 0⟩, args := #[] }]
def about1 : State := aboutOver below0
def p0 : Program := .bare "" "" ""
def e0 : Env := launch0.env 0 0 0
theorem w_frames : about1.frames = Frame.invoking theMethod args0 :: below0 := rfl
set_option maxRecDepth 65536 in
theorem w_args : argsFit about1.vm theMethod args0 = true := by decide +kernel
set_option maxRecDepth 65536 in
theorem w_heap : heapFits about1 = true := by decide +kernel
set_option maxRecDepth 65536 in
theorem w_runnable : about1.curStatus? = some .runnable := by decide +kernel
set_option maxRecDepth 65536 in
theorem w_alone : about1.alone = true := by decide +kernel
set_option maxRecDepth 65536 in
theorem w_named : about1.methodNamed? x = some theMethod := by decide +kernel
set_option maxRecDepth 65536 in
theorem w_hears : about1.hears theMethod below0 = true := by decide +kernel
set_option maxRecDepth 65536 in
theorem w_ripe : about1.ripe theMethod args0 below0 = true := by decide +kernel
theorem w_running : about1.status = .running := rfl
set_option maxRecDepth 65536 in
theorem w_room : about1.hasRoom e0.platform room_1 = true :=
  launch0.hasRoom_least _ room_1 (by decide +kernel) (by decide +kernel) (by decide +kernel) (by decide +kernel) (by decide +kernel) (by decide +kernel)
theorem allAtoms_all (ts : List Jvm.Cond) (a : Array Jvm.Value) (st : Jvm.State) : (allAtoms ts).before a st = ts.all (fun c => c.before a st) := by
  induction ts with
  | nil => rfl
  | cons c t ih =>
    show (Jvm.Cond.and c (allAtoms t)).before a st = _
    rw [Jvm.Cond.before_and, ih, List.all_cons]
def words1 : List Jvm.Cond := Jvm.Cond.code x code maxLocals ret :: tables_1
/-- a 'code' word, met by the world's own term for the bytes: nothing is compared byte by byte -/
theorem code_word {y : MethodName} {bytes : ByteArray} {mx : Nat} {rt : Option FieldType} {a : Array Value} {s : State} {m : MethodId} {meth : Method} {c : Code} (h1 : s.methodNamed? y = some m) (h2 : s.vm.method? m = some meth) (h3 : meth.code = some c) (h4 : c.code = bytes)
    (h5 : (c.maxLocals == mx && c.exceptionTable.isEmpty && decide (c.maxStack ≤ mostOperands) && decide (meth.sig.returnType = rt) && !meth.locks && decide (parseMethodDescriptor y.desc = some meth.sig)) = true) : (Jvm.Cond.code y bytes mx rt).before a s = true := by
  simp only [Bool.and_eq_true, beq_iff_eq, Bool.not_eq_true', decide_eq_true_eq] at h5
  obtain ⟨⟨⟨⟨⟨g1, g2⟩, g3⟩, g4⟩, g5⟩, g6⟩ := h5
  simp [Cond.before, Cond.holds, Cond.value, h1, h2, h3, h4, g1, g2, g3, g4, g5, g6]
def isCode : Jvm.Cond → Bool
  | .code _ _ _ _ => true
  | _ => false
theorem all_split {L : List Jvm.Cond} {P : Jvm.Cond → Bool} (h1 : L.all (fun c => isCode c || P c) = true) (h2 : ∀ c ∈ L.filter isCode, P c = true) : L.all P = true := by
  refine List.all_eq_true.mpr fun c hc => ?_
  have h := List.all_eq_true.mp h1 c hc
  rcases Bool.eq_false_or_eq_true (isCode c) with hi | hi
  · exact h2 c (List.mem_filter.mpr ⟨hc, hi⟩)
  · simpa [hi] using h
set_option maxRecDepth 65536 in
theorem w_c0 : (Jvm.Cond.code x code maxLocals ret).before args0 about1 = true := code_word (m := ⟨1, 1⟩) (meth := k1m1) (c := k1c1) (by decide +kernel) rfl rfl rfl (by decide +kernel)
set_option maxRecDepth 65536 in
theorem w_c1 : (Jvm.Cond.code ({ cls := "com/example/needlework/needlework/cli/Bench$Result", name := "<init>", desc := "(JDJDD)V" } : Jvm.MethodName) prog_25_method_1_code (11 : Nat) (Option.none : Option Jvm.ClassFile.FieldType)).before args0 about1 = true := code_word (m := ⟨3, 0⟩) (meth := k3m0) (c := k3c0) (by decide +kernel) rfl rfl rfl (by decide +kernel)
set_option maxRecDepth 65536 in
theorem w_c2 : (Jvm.Cond.code ({ cls := "java/lang/Record", name := "<init>", desc := "()V" } : Jvm.MethodName) jdk_30_method_1_code (1 : Nat) (Option.none : Option Jvm.ClassFile.FieldType)).before args0 about1 = true := code_word (m := ⟨2, 0⟩) (meth := k2m0) (c := k2c0) (by decide +kernel) rfl rfl rfl (by decide +kernel)
set_option maxRecDepth 65536 in
theorem w_c3 : (Jvm.Cond.code ({ cls := "java/lang/Object", name := "<init>", desc := "()V" } : Jvm.MethodName) object_method_1_code (1 : Nat) (Option.none : Option Jvm.ClassFile.FieldType)).before args0 about1 = true := code_word (m := ⟨0, 0⟩) (meth := k0m0) (c := k0c0) (by decide +kernel) rfl rfl rfl (by decide +kernel)
set_option maxRecDepth 65536 in
theorem w_c4 : (Jvm.Cond.code ({ cls := "com/example/needlework/needlework/cli/Bench$Result", name := "agree", desc := "()Z" } : Jvm.MethodName) prog_25_method_2_code (1 : Nat) (Option.some Jvm.ClassFile.FieldType.boolean)).before args0 about1 = true := code_word (m := ⟨3, 1⟩) (meth := k3m1) (c := k3c1) (by decide +kernel) rfl rfl rfl (by decide +kernel)
def codes1 : List Jvm.Cond := [Jvm.Cond.code x code maxLocals ret, Jvm.Cond.code ({ cls := "com/example/needlework/needlework/cli/Bench$Result", name := "<init>", desc := "(JDJDD)V" } : Jvm.MethodName) prog_25_method_1_code (11 : Nat) (Option.none : Option Jvm.ClassFile.FieldType), Jvm.Cond.code ({ cls := "java/lang/Record", name := "<init>", desc := "()V" } : Jvm.MethodName) jdk_30_method_1_code (1 : Nat) (Option.none : Option Jvm.ClassFile.FieldType), Jvm.Cond.code ({ cls := "java/lang/Object", name := "<init>", desc := "()V" } : Jvm.MethodName) object_method_1_code (1 : Nat) (Option.none : Option Jvm.ClassFile.FieldType), Jvm.Cond.code ({ cls := "com/example/needlework/needlework/cli/Bench$Result", name := "agree", desc := "()Z" } : Jvm.MethodName) prog_25_method_2_code (1 : Nat) (Option.some Jvm.ClassFile.FieldType.boolean)]
set_option maxRecDepth 65536 in
theorem codes_eq : words1.filter isCode = codes1 := rfl
theorem w_codes : ∀ c ∈ words1.filter isCode, c.before args0 about1 = true := by
  rw [codes_eq]
  intro c hc
  simp only [codes1, List.mem_cons, List.not_mem_nil, or_false] at hc
  rcases hc with rfl | rfl | rfl | rfl | rfl
  · exact w_c0
  · exact w_c1
  · exact w_c2
  · exact w_c3
  · exact w_c4
set_option maxRecDepth 65536 in
theorem w_t1 : (words1.take 24).all (fun c => isCode c || c.before args0 about1) = true := by decide +kernel
set_option maxRecDepth 65536 in
theorem w_t2 : (words1.drop 24).all (fun c => isCode c || c.before args0 about1) = true := by decide +kernel
theorem w_tables : (allAtoms (Jvm.Cond.code x code maxLocals ret :: tables_1)).before args0 about1 = true := by
  rw [allAtoms_all]
  show words1.all (fun c => c.before args0 about1) = true
  refine all_split ?_ w_codes
  rw [← List.take_append_drop 24 words1, List.all_append, w_t1, w_t2]
  rfl
set_option maxRecDepth 65536 in
theorem w_case : (Jvm.Cond.and given_1 narrow_1).before args0 about1 = true := by decide +kernel
theorem w_applies : (headSpec (Jvm.Cond.code x code maxLocals ret :: tables_1) room_1).applies x e0.platform about1 = true :=
  (Spec.applies_iff w_frames).mpr ⟨w_running, w_runnable, w_alone, w_named, w_hears, w_ripe, w_room, w_tables⟩
theorem atStart : AtStart classFile x code maxLocals ret World_1 tables_1 room_1 Calls_1 rest_1 Pre_1 launch0 p0 e0 about1 theMethod args0 below0 :=
  ⟨lists_1, trivial, launch0.admits_env _ _ _, launch0.least_env, fairChoices_fair.cas, fairChoices_fair.clock, w_frames, w_args, w_heap, w_applies, trivial, trivial, w_case⟩
end start1
theorem witness_1 : WitnessClaimed_1 := ⟨start1.p0, start1.e0, start1.about1, start1.theMethod, start1.args0, start1.below0, start1.atStart⟩
end Jvm.Pilot.@@N@@
