import JvmDerived
import JvmDerived.Pilot.@@N@@Statement
import JvmDerived.Pilot.@@N@@Code
set_option linter.unusedVariables false
set_option linter.unusedSimpArgs false
namespace Jvm.Pilot.@@N@@
open Jvm Jvm.ClassFile Sem Op Lib Jvm.Free Jvm.Stand Jvm.LawKit Jvm.RoadKit Bundle Jvm.Pilot.@@N@@.Jvm.D
def own_Fin (p : Program) (e : Env) (below : List Frame) (P : State → Outcome → Prop) (a : State) : Prop := ∃ t o, Steps p.tables e below a t ∧ t.status = .running ∧ Ended t below o ∧ P t o
theorem own_fin {p : Program} {e : Env} {below : List Frame} {P : State → Outcome → Prop} {a b : State} (k : ∀ t, Steps p.tables e below b t → Steps p.tables e below a t) (h : own_Fin p e below P b) : own_Fin p e below P a := by
  obtain ⟨t, o, s, r⟩ := h
  exact ⟨t, o, k t s, r⟩
theorem own_StaKeep {Z : State} {h : Heap} {C n d : String} {v : Value} {n0 : Nat} (O : Old Z n0 h) (F : Sta Z Z.heap C n d v) : Sta Z h C n d v := F.ext O.2

theorem own_z : (0 : Int32).toInt = 0 := rfl
theorem own_o : (1 : Int32).toInt = 1 := rfl
theorem own_h (a : Int64) : ¬ (a &&& (9223372036854775807 : Int64)) < (0 : Int64) := by
  have := c_maskL a (9223372036854775807 : Int64) 63 (by decide) (by decide)
  have e : (0 : Int64).toInt = 0 := rfl
  rw [Int64.lt_iff_toInt_lt, this, e]; omega
theorem own_dv {p d : Int32} (h : ((p &&& (1073741823 : Int32)) + (1 : Int32)) = d) : 1 ≤ d.toInt ∧ d.toInt ≤ 1073741824 := by
  have m := c_mask p (1073741823 : Int32) 30 (by decide) (by decide)
  have a := c_iadd (p &&& (1073741823 : Int32)) (1 : Int32)
  have r := rng32 d
  rw [h, own_o] at a
  omega
theorem own_d1 {d : Int32} (h : 1 ≤ d.toInt ∧ d.toInt ≤ 1073741824) : (d + (1 : Int32)).toInt = d.toInt + 1 := by
  have a := c_iadd d (1 : Int32)
  have r := rng32 (d + 1)
  rw [own_o] at a
  omega
theorem own_nz {d : Int32} (h : 1 ≤ d.toInt ∧ d.toInt ≤ 1073741824) : (d + (1 : Int32)) ≠ (0 : Int32) := fun q => by
  have := own_d1 h
  rw [q, own_z] at this; omega
theorem own_fv {p d f : Int32} (h : 1 ≤ d.toInt ∧ d.toInt ≤ 1073741824) (e : ((p &&& (2147483647 : Int32)) % (d + (1 : Int32))) = f) : 0 ≤ f.toInt ∧ f.toInt ≤ d.toInt := by
  have m := c_mask p (2147483647 : Int32) 31 (by decide) (by decide)
  have q := (c_iremV (p &&& (2147483647 : Int32)) (d + (1 : Int32))).1 (by omega) (by rw [own_d1 h]; omega)
  rw [e, own_d1 h] at q
  omega
theorem own_c1 {d : Int32} (h : 1 ≤ d.toInt ∧ d.toInt ≤ 1073741824) : ¬ d < (1 : Int32) := by rw [Int32.lt_iff_toInt_lt, own_o]; omega
theorem own_c2 {d f : Int32} (h : 0 ≤ f.toInt ∧ f.toInt ≤ d.toInt) : ¬ f < (0 : Int32) := by rw [Int32.lt_iff_toInt_lt, own_z]; omega
theorem own_c3 {d f : Int32} (h : 0 ≤ f.toInt ∧ f.toInt ≤ d.toInt) : ¬ d < f := by rw [Int32.lt_iff_toInt_lt]; omega
theorem own_d2_0 : decode jdk_30_method_1_code 0 = .ok (.aload_n 0, 1) := by decide +kernel
theorem own_d2_1 : decode jdk_30_method_1_code 1 = .ok (.invokespecial 1, 3) := by decide +kernel
theorem own_d2_4 : decode jdk_30_method_1_code 4 = .ok (.return_, 1) := by decide +kernel
theorem own_pn_java_lang_Record : plainName "java/lang/Record" = true := by first | (simp [plainName, overriddenIn]; done) | decide +kernel
theorem own_ef_rm_rec (mM : MethodId) (x0 : Addr) : entryFrame mM #[(.ref x0)] 1 = mkF mM 0 #[.val (.ref x0)] [] := by first | (simp [entryFrame, mkF, argsToLocals, Value.category]; done) | rfl
def Q_rm_rec (Z : State) (a : Addr) (h0 : Heap) (n0 : Nat) (vV : Option Value) (hH : Heap) (lA : List Loc) : Prop := vV = none ∧ Fr n0 lA ∧ (hH = h0)
set_option maxRecDepth 65536 in
set_option maxHeartbeats 40000000 in
theorem rm_rec (lL : Launch) (Z : State) (a0 : Array Value) (hw : ∀ d ∈ tables_1, d.before a0 Z = true) (ws : List Jvm.Cond) (a : Addr) (h0 : Heap) (n0 : Nat) (Z0 : n0 ≤ h0.size) :
    MetFree lL (⟨"java/lang/Record", "<init>", "()V"⟩ : MethodName) (head1 (Jvm.Cond.code (⟨"java/lang/Record", "<init>", "()V"⟩ : MethodName) jdk_30_method_1_code 1 none :: ws) ({ frames := 1, cells := 0, slots := 0, locals := 12 } : Room)) (fun aA uU => aA = #[(.ref a)] ∧ Z.Warmed39 uU.vm ∧ uU.heap = h0) (fun _ _ _ _ _ => True) (fun _ uU oO uU' => ∃ vV lA, oO = .returned vV ∧ Q_rm_rec Z a h0 n0 vV uU'.heap lA ∧ FrameEnd uU oO uU' lA ({ frames := 1, cells := 0, slots := 0, locals := 12 } : Room).cells ({ frames := 1, cells := 0, slots := 0, locals := 12 } : Room).slots) := by
  refine MetFree.of_bodySF (plainFor_of_name own_pn_java_lang_Record) hisR ?_
  intro pP eE sS mM args below meth cC s₁ Bd hml0 hP hK
  obtain ⟨rfl, hZ, hh⟩ := hP
  have hx := Bd.exec
  have hby := Bd.bytes
  have hml : cC.maxLocals = 1 := hml0
  have hown : sS.vm.findClass "java/lang/Record" = some mM.cls := findClass_of_methodNamed Bd.named
  have hnm := (name_of_methodNamed Bd.named Bd.method).1
  have X0 : Stand pP lL eE ({ frames := 1, cells := 0, slots := 0, locals := 12 } : Room) sS mM #[(.ref a)] below meth cC s₁ [] 0 0 := Stand.of_body Bd
  have e0 : s₁.heap = h0 := by rw [← hh, Bd.state]; rfl
  have N0 := Fr.nil n0
  have K0 := Keep.refl h0 ([] : List Addr)
  show own_Fin pP eE below (fun tT oO => ∃ vV lA, oO = .returned vV ∧ Q_rm_rec Z a h0 n0 vV tT.heap lA ∧ FrameEnd sS oO tT lA ({ frames := 1, cells := 0, slots := 0, locals := 12 } : Room).cells ({ frames := 1, cells := 0, slots := 0, locals := 12 } : Room).slots) (s₁.setTop (entryFrame mM #[(.ref a)] 1))
  refine own_fin (b := s₁.setTop (mkF mM 0 #[.val (.ref a)] [])) (fun tT kK => castTop (own_ef_rm_rec mM a) kK) ?_
  refine own_fin (b := s₁.setTop (mkF mM 1 #[.val (.ref a)] [(.ref a)])) (fun tT kK => ?_) ?_
  · show Steps pP.tables eE below (s₁.setTop (mkF mM 0 #[.val (.ref a)] [])) tT
    refine XS.aloadN X0.here hx rfl (Jvm.hb hby own_d2_0) rfl rfl ?_
    show Steps pP.tables eE below (s₁.setTop (mkF mM 1 #[.val (.ref a)] [(.ref a)])) tT
    exact kK
  obtain ⟨T1_, X1_, e1_, st1_⟩ := initO X0 hx hZ hown (hw _ (List.mem_of_getElem? (i := 14) rfl)) (hw _ (List.mem_of_getElem? (i := 15) rfl)) (hw _ (List.mem_of_getElem? (i := 16) rfl)) e0 (g := (mkF mM 1 #[.val (.ref a)] [(.ref a)])) rfl (by rw [hml]; rfl) rfl (Jvm.hb hby own_d2_1) (by decide) (W := 0) (by show 2 * 0 + _ ≤ _; exact Nat.le_of_eq rfl) (by decide)
  refine own_fin st1_ ?_
  show own_Fin pP eE below _ (T1_.setTop (mkF mM 4 #[.val (.ref a)] []))
  obtain ⟨fs, hr, hrun, hended, hW, hsame⟩ := X1_.leave (v := none) (fun _ => rfl)
  refine ⟨_, _, ?_, hrun, hended, _, _, rfl, ?_, ⟨_, rfl⟩, hW, hsame.mono (by decide) (by decide)⟩
  · show Steps pP.tables eE below (T1_.setTop (mkF mM 4 #[.val (.ref a)] [])) _
    exact X1_.returnOut hx Bd.returns (Jvm.hb hby own_d2_4) hr
  · show Q_rm_rec Z a h0 n0 _ T1_.heap _
    rw [e1_]
    exact ⟨rfl, N0, rfl⟩
theorem own_d1_0 : decode prog_60_method_1_code 0 = .ok (.aload_n 0, 1) := by decide +kernel
theorem own_d1_1 : decode prog_60_method_1_code 1 = .ok (.invokespecial 1, 3) := by decide +kernel
theorem own_pd0 : parseMethodDescriptor "()V" = some ⟨[], none⟩ := by decide +kernel
theorem own_d1_4 : decode prog_60_method_1_code 4 = .ok (.lload_n 1, 1) := by decide +kernel
theorem own_d1_5 : decode prog_60_method_1_code 5 = .ok (.lconst 0, 1) := by decide +kernel
theorem own_d1_6 : decode prog_60_method_1_code 6 = .ok (.lcmp, 1) := by decide +kernel
theorem own_d1_7 : decode prog_60_method_1_code 7 = .ok (.ifCond .lt 26, 3) := by decide +kernel
theorem own_d1_10 : decode prog_60_method_1_code 10 = .ok (.iload_n 3, 1) := by decide +kernel
theorem own_d1_11 : decode prog_60_method_1_code 11 = .ok (.iconst 1, 1) := by decide +kernel
theorem own_d1_12 : decode prog_60_method_1_code 12 = .ok (.if_icmp .lt 21, 3) := by decide +kernel
theorem own_d1_15 : decode prog_60_method_1_code 15 = .ok (.iload 4, 2) := by decide +kernel
theorem own_d1_17 : decode prog_60_method_1_code 17 = .ok (.ifCond .lt 16, 3) := by decide +kernel
theorem own_d1_20 : decode prog_60_method_1_code 20 = .ok (.iload 4, 2) := by decide +kernel
theorem own_d1_22 : decode prog_60_method_1_code 22 = .ok (.iload_n 3, 1) := by decide +kernel
theorem own_d1_23 : decode prog_60_method_1_code 23 = .ok (.if_icmp .gt 10, 3) := by decide +kernel
theorem own_d1_26 : decode prog_60_method_1_code 26 = .ok (.lload 5, 2) := by decide +kernel
theorem own_d1_28 : decode prog_60_method_1_code 28 = .ok (.lconst 0, 1) := by decide +kernel
theorem own_d1_29 : decode prog_60_method_1_code 29 = .ok (.lcmp, 1) := by decide +kernel
theorem own_d1_30 : decode prog_60_method_1_code 30 = .ok (.ifCond .ge 22, 3) := by decide +kernel
theorem own_d1_52 : decode prog_60_method_1_code 52 = .ok (.aload_n 0, 1) := by decide +kernel
theorem own_d1_53 : decode prog_60_method_1_code 53 = .ok (.lload_n 1, 1) := by decide +kernel
theorem own_d1_54 : decode prog_60_method_1_code 54 = .ok (.putfield 16, 3) := by decide +kernel
theorem own_d1_57 : decode prog_60_method_1_code 57 = .ok (.aload_n 0, 1) := by decide +kernel
theorem own_d1_58 : decode prog_60_method_1_code 58 = .ok (.iload_n 3, 1) := by decide +kernel
theorem own_d1_59 : decode prog_60_method_1_code 59 = .ok (.putfield 22, 3) := by decide +kernel
theorem own_d1_62 : decode prog_60_method_1_code 62 = .ok (.aload_n 0, 1) := by decide +kernel
theorem own_d1_63 : decode prog_60_method_1_code 63 = .ok (.iload 4, 2) := by decide +kernel
theorem own_d1_65 : decode prog_60_method_1_code 65 = .ok (.putfield 26, 3) := by decide +kernel
theorem own_d1_68 : decode prog_60_method_1_code 68 = .ok (.aload_n 0, 1) := by decide +kernel
theorem own_d1_69 : decode prog_60_method_1_code 69 = .ok (.lload 5, 2) := by decide +kernel
theorem own_d1_71 : decode prog_60_method_1_code 71 = .ok (.putfield 29, 3) := by decide +kernel
theorem own_d1_74 : decode prog_60_method_1_code 74 = .ok (.return_, 1) := by decide +kernel
theorem own_pn_com_example_portion_portion_server_Redelivery : plainName "com/example/portion/portion/server/Redelivery" = true := by first | (simp [plainName, overriddenIn]; done) | decide +kernel
theorem own_ef_rm_rd (mM : MethodId) (x0 : Addr) (x1 : Int64) (x2 : Int32) (x3 : Int32) (x4 : Int64) : entryFrame mM #[(.ref x0), (.long x1), (.int x2), (.int x3), (.long x4)] 7 = mkF mM 0 #[.val (.ref x0), .val (.long x1), .second, .val (.int x2), .val (.int x3), .val (.long x4), .second] [] := by first | (simp [entryFrame, mkF, argsToLocals, Value.category]; done) | rfl
def Q_rm_rd (Z : State) (a : Addr) (q1 : Int64) (p2 : Int32) (p3 : Int32) (q4 : Int64) (h0 : Heap) (n0 : Nat) (vV : Option Value) (hH : Heap) (lA : List Loc) : Prop := vV = none ∧ Fr n0 lA ∧ (Keep h0 hH [a]) ∧ (Exa Z hH a "com/example/portion/portion/server/Redelivery")
set_option maxRecDepth 65536 in
set_option maxHeartbeats 40000000 in
theorem rm_rd (lL : Launch) (Z : State) (a0 : Array Value) (hw : ∀ d ∈ tables_1, d.before a0 Z = true) (ws : List Jvm.Cond) (a : Addr) (q1 : Int64) (p2 : Int32) (p3 : Int32) (q4 : Int64) (h0 : Heap) (n0 : Nat) (Z0 : n0 ≤ h0.size) (Ea : Exa Z h0 a "com/example/portion/portion/server/Redelivery") (F_offset : Fld Z h0 a "com/example/portion/portion/server/Redelivery" "offset" "J" (.long (0 : Int64))) (F_deliveries : Fld Z h0 a "com/example/portion/portion/server/Redelivery" "deliveries" "I" (.int (0 : Int32))) (F_failures : Fld Z h0 a "com/example/portion/portion/server/Redelivery" "failures" "I" (.int (0 : Int32))) (F_retryAt : Fld Z h0 a "com/example/portion/portion/server/Redelivery" "retryAt" "J" (.long (0 : Int64))) (ga : n0 ≤ a) (c1 : ¬ (q1 < (0 : Int64))) (c2 : ¬ (p2 < (1 : Int32))) (c3 : ¬ (p3 < (0 : Int32))) (c4 : ¬ (p2 < p3)) (c5 : ¬ (q4 < (0 : Int64))) :
    MetFree lL (⟨"com/example/portion/portion/server/Redelivery", "<init>", "(JIIJ)V"⟩ : MethodName) (head1 (Jvm.Cond.code (⟨"com/example/portion/portion/server/Redelivery", "<init>", "(JIIJ)V"⟩ : MethodName) prog_60_method_1_code 7 none :: ws) ({ frames := 2, cells := 0, slots := 0, locals := 24 } : Room)) (fun aA uU => aA = #[(.ref a), (.long q1), (.int p2), (.int p3), (.long q4)] ∧ Z.Warmed39 uU.vm ∧ uU.heap = h0) (fun _ _ _ _ _ => True) (fun _ uU oO uU' => ∃ vV lA, oO = .returned vV ∧ Q_rm_rd Z a q1 p2 p3 q4 h0 n0 vV uU'.heap lA ∧ FrameEnd uU oO uU' lA ({ frames := 2, cells := 0, slots := 0, locals := 24 } : Room).cells ({ frames := 2, cells := 0, slots := 0, locals := 24 } : Room).slots) := by
  refine MetFree.of_bodySF (plainFor_of_name own_pn_com_example_portion_portion_server_Redelivery) hisR ?_
  intro pP eE sS mM args below meth cC s₁ Bd hml0 hP hK
  obtain ⟨rfl, hZ, hh⟩ := hP
  have hx := Bd.exec
  have hby := Bd.bytes
  have hml : cC.maxLocals = 7 := hml0
  have hown : sS.vm.findClass "com/example/portion/portion/server/Redelivery" = some mM.cls := findClass_of_methodNamed Bd.named
  have hnm := (name_of_methodNamed Bd.named Bd.method).1
  have X0 : Stand pP lL eE ({ frames := 2, cells := 0, slots := 0, locals := 24 } : Room) sS mM #[(.ref a), (.long q1), (.int p2), (.int p3), (.long q4)] below meth cC s₁ [] 0 0 := Stand.of_body Bd
  have e0 : s₁.heap = h0 := by rw [← hh, Bd.state]; rfl
  have N0 := Fr.nil n0
  have K0 := Keep.refl h0 [a]
  show own_Fin pP eE below (fun tT oO => ∃ vV lA, oO = .returned vV ∧ Q_rm_rd Z a q1 p2 p3 q4 h0 n0 vV tT.heap lA ∧ FrameEnd sS oO tT lA ({ frames := 2, cells := 0, slots := 0, locals := 24 } : Room).cells ({ frames := 2, cells := 0, slots := 0, locals := 24 } : Room).slots) (s₁.setTop (entryFrame mM #[(.ref a), (.long q1), (.int p2), (.int p3), (.long q4)] 7))
  refine own_fin (b := s₁.setTop (mkF mM 0 #[.val (.ref a), .val (.long q1), .second, .val (.int p2), .val (.int p3), .val (.long q4), .second] [])) (fun tT kK => castTop (own_ef_rm_rd mM a q1 p2 p3 q4) kK) ?_
  refine own_fin (b := s₁.setTop (mkF mM 1 #[.val (.ref a), .val (.long q1), .second, .val (.int p2), .val (.int p3), .val (.long q4), .second] [(.ref a)])) (fun tT kK => ?_) ?_
  · show Steps pP.tables eE below (s₁.setTop (mkF mM 0 #[.val (.ref a), .val (.long q1), .second, .val (.int p2), .val (.int p3), .val (.long q4), .second] [])) tT
    refine XS.aloadN X0.here hx rfl (Jvm.hb hby own_d1_0) rfl rfl ?_
    show Steps pP.tables eE below (s₁.setTop (mkF mM 1 #[.val (.ref a), .val (.long q1), .second, .val (.int p2), .val (.int p3), .val (.long q4), .second] [(.ref a)])) tT
    exact kK
  obtain ⟨_, _, ⟨T1_, L1_, k1_, n1_⟩, -, X1_, ⟨Lc1_, hQ1_, l1_, y1_, z1_⟩, st1_⟩ := X0.specialBack hx (y := (⟨"java/lang/Record", "<init>", "()V"⟩ : MethodName)) rfl hown (mvT hZ (hw _ (List.mem_of_getElem? (i := 9) rfl))) (mvT hZ (hw _ (List.mem_of_getElem? (i := 10) rfl))) (mvT hZ (hw _ (List.mem_of_getElem? (i := 13) rfl))) (by decide) (backOf (W := 0) (rm_rec lL Z a0 hw [] a h0 n0 (Nat.le_trans Z0 K0.1) ) hZ (hw _ (List.mem_of_getElem? (i := 13) rfl)) (hw _ (List.mem_of_getElem? (i := 12) rfl)) (by decide) (by decide)) (g := (mkF mM 1 #[.val (.ref a), .val (.long q1), .second, .val (.int p2), .val (.int p3), .val (.long q4), .second] [(.ref a)])) rfl (by rw [hml]; rfl) (Steps.refl _) (a := a) (argsL := []) (rest := []) (lenOf own_pd0 rfl) rfl (by show 2 * 0 + _ ≤ _; exact Nat.le_of_eq rfl) (Jvm.hb hby own_d1_1) (fun _ _ => ⟨rfl, e0, (by decide : 0 + 0 ≤ _), (by decide : 0 + 0 ≤ _)⟩)
  dsimp only [Pt.U, Pt.locs, Pt.cells, Pt.slots] at X1_ l1_ y1_ z1_ st1_ hQ1_
  subst l1_ y1_ z1_
  obtain ⟨rfl, N1_q, p1__0⟩ := hQ1_
  have N1_ := Fr.app N0 N1_q
  refine own_fin (fun tT kK => st1_.trans kK) ?_
  show own_Fin pP eE below _ (T1_.setTop (mkF mM 4 #[.val (.ref a), .val (.long q1), .second, .val (.int p2), .val (.int p3), .val (.long q4), .second] []))
  refine own_fin (b := T1_.setTop (mkF mM 54 #[.val (.ref a), .val (.long q1), .second, .val (.int p2), .val (.int p3), .val (.long q4), .second] [(.long q1), (.ref a)])) (fun tT kK => ?_) ?_
  · show Steps pP.tables eE below (T1_.setTop (mkF mM 4 #[.val (.ref a), .val (.long q1), .second, .val (.int p2), .val (.int p3), .val (.long q4), .second] [])) tT
    refine XS.lloadN X1_.here hx rfl (Jvm.hb hby own_d1_4) rfl ?_
    show Steps pP.tables eE below (T1_.setTop (mkF mM 5 #[.val (.ref a), .val (.long q1), .second, .val (.int p2), .val (.int p3), .val (.long q4), .second] [(.long q1)])) tT
    refine XS.lconst X1_.here hx rfl (Jvm.hb hby own_d1_5) ?_
    show Steps pP.tables eE below (T1_.setTop (mkF mM 6 #[.val (.ref a), .val (.long q1), .second, .val (.int p2), .val (.int p3), .val (.long q4), .second] [(.long (0 : Int64)), (.long q1)])) tT
    refine XS.lcmp X1_.here hx rfl (Jvm.hb hby own_d1_6) rfl ?_
    show Steps pP.tables eE below (T1_.setTop (mkF mM 7 #[.val (.ref a), .val (.long q1), .second, .val (.int p2), .val (.int p3), .val (.long q4), .second] [(.int (lcmpW q1 (0 : Int64)))])) tT
    refine XS.ifNo X1_.here hx rfl (Jvm.hb hby own_d1_7) rfl ((if0 _ _).trans (flt (mt (lw_lt q1 (0 : Int64)).mp (c1 : ¬ (q1 < (0 : Int64))))).1) ?_
    show Steps pP.tables eE below (T1_.setTop (mkF mM 10 #[.val (.ref a), .val (.long q1), .second, .val (.int p2), .val (.int p3), .val (.long q4), .second] [])) tT
    refine XS.iloadN X1_.here hx rfl (Jvm.hb hby own_d1_10) rfl ?_
    show Steps pP.tables eE below (T1_.setTop (mkF mM 11 #[.val (.ref a), .val (.long q1), .second, .val (.int p2), .val (.int p3), .val (.long q4), .second] [(.int p2)])) tT
    refine XS.iconst X1_.here hx rfl (Jvm.hb hby own_d1_11) ?_
    show Steps pP.tables eE below (T1_.setTop (mkF mM 12 #[.val (.ref a), .val (.long q1), .second, .val (.int p2), .val (.int p3), .val (.long q4), .second] [(.int (1 : Int32)), (.int p2)])) tT
    refine XS.icmpNo X1_.here hx rfl (Jvm.hb hby own_d1_12) rfl (flt (c2 : ¬ (p2 < (1 : Int32)))).1 ?_
    show Steps pP.tables eE below (T1_.setTop (mkF mM 15 #[.val (.ref a), .val (.long q1), .second, .val (.int p2), .val (.int p3), .val (.long q4), .second] [])) tT
    refine XS.iload X1_.here hx rfl (Jvm.hb hby own_d1_15) rfl ?_
    show Steps pP.tables eE below (T1_.setTop (mkF mM 17 #[.val (.ref a), .val (.long q1), .second, .val (.int p2), .val (.int p3), .val (.long q4), .second] [(.int p3)])) tT
    refine XS.ifNo X1_.here hx rfl (Jvm.hb hby own_d1_17) rfl ((if0 _ _).trans (flt (c3 : ¬ (p3 < (0 : Int32)))).1) ?_
    show Steps pP.tables eE below (T1_.setTop (mkF mM 20 #[.val (.ref a), .val (.long q1), .second, .val (.int p2), .val (.int p3), .val (.long q4), .second] [])) tT
    refine XS.iload X1_.here hx rfl (Jvm.hb hby own_d1_20) rfl ?_
    show Steps pP.tables eE below (T1_.setTop (mkF mM 22 #[.val (.ref a), .val (.long q1), .second, .val (.int p2), .val (.int p3), .val (.long q4), .second] [(.int p3)])) tT
    refine XS.iloadN X1_.here hx rfl (Jvm.hb hby own_d1_22) rfl ?_
    show Steps pP.tables eE below (T1_.setTop (mkF mM 23 #[.val (.ref a), .val (.long q1), .second, .val (.int p2), .val (.int p3), .val (.long q4), .second] [(.int p2), (.int p3)])) tT
    refine XS.icmpNo X1_.here hx rfl (Jvm.hb hby own_d1_23) rfl (flt (c4 : ¬ (p2 < p3))).2.2.1 ?_
    show Steps pP.tables eE below (T1_.setTop (mkF mM 26 #[.val (.ref a), .val (.long q1), .second, .val (.int p2), .val (.int p3), .val (.long q4), .second] [])) tT
    refine XS.lload X1_.here hx rfl (Jvm.hb hby own_d1_26) rfl ?_
    show Steps pP.tables eE below (T1_.setTop (mkF mM 28 #[.val (.ref a), .val (.long q1), .second, .val (.int p2), .val (.int p3), .val (.long q4), .second] [(.long q4)])) tT
    refine XS.lconst X1_.here hx rfl (Jvm.hb hby own_d1_28) ?_
    show Steps pP.tables eE below (T1_.setTop (mkF mM 29 #[.val (.ref a), .val (.long q1), .second, .val (.int p2), .val (.int p3), .val (.long q4), .second] [(.long (0 : Int64)), (.long q4)])) tT
    refine XS.lcmp X1_.here hx rfl (Jvm.hb hby own_d1_29) rfl ?_
    show Steps pP.tables eE below (T1_.setTop (mkF mM 30 #[.val (.ref a), .val (.long q1), .second, .val (.int p2), .val (.int p3), .val (.long q4), .second] [(.int (lcmpW q4 (0 : Int64)))])) tT
    refine XS.ifYes X1_.here hx rfl (pc0 := 30) (pc' := 52) rfl (Jvm.hb hby own_d1_30) rfl ((if0 _ _).trans (flt (mt (lw_lt q4 (0 : Int64)).mp (c5 : ¬ (q4 < (0 : Int64))))).2.1) (by decide) (by decide) ?_
    show Steps pP.tables eE below (T1_.setTop (mkF mM 52 #[.val (.ref a), .val (.long q1), .second, .val (.int p2), .val (.int p3), .val (.long q4), .second] [])) tT
    refine XS.aloadN X1_.here hx rfl (Jvm.hb hby own_d1_52) rfl rfl ?_
    show Steps pP.tables eE below (T1_.setTop (mkF mM 53 #[.val (.ref a), .val (.long q1), .second, .val (.int p2), .val (.int p3), .val (.long q4), .second] [(.ref a)])) tT
    refine XS.lloadN X1_.here hx rfl (Jvm.hb hby own_d1_53) rfl ?_
    show Steps pP.tables eE below (T1_.setTop (mkF mM 54 #[.val (.ref a), .val (.long q1), .second, .val (.int p2), .val (.int p3), .val (.long q4), .second] [(.long q1), (.ref a)])) tT
    exact kK
  obtain ⟨T2_, h2_, X2_, e2_, W2_, st2_⟩ := putF X1_ hx hZ hown (host := "") (Or.inl (hw _ (List.mem_of_getElem? (i := 17) rfl))) Via.refl p1__0 F_offset Ea (Or.inr ⟨(hw _ (List.mem_of_getElem? (i := 18) rfl)), rfl, hnm⟩) (hw _ (List.mem_of_getElem? (i := 3) rfl)) (ty := .long) (by decide) rfl rfl (g := (mkF mM 54 #[.val (.ref a), .val (.long q1), .second, .val (.int p2), .val (.int p3), .val (.long q4), .second] [(.long q1), (.ref a)])) rfl rfl (Jvm.hb hby own_d1_54)
  have Fw2_ := F_offset.same W2_
  have fc3_ := Ea.wr W2_
  have fc4_ := F_deliveries.other W2_ (Or.inr (slot_ne (Or.inr (hw _ (List.mem_of_getElem? (i := 20) rfl))) (Or.inr (hw _ (List.mem_of_getElem? (i := 18) rfl))) (by decide) (t := .int) (t' := .long) (by decide) (by decide)))
  have fc5_ := F_failures.other W2_ (Or.inr (slot_ne (Or.inr (hw _ (List.mem_of_getElem? (i := 22) rfl))) (Or.inr (hw _ (List.mem_of_getElem? (i := 18) rfl))) (by decide) (t := .int) (t' := .long) (by decide) (by decide)))
  have fc6_ := F_retryAt.other W2_ (Or.inr (slot_ne (Or.inr (hw _ (List.mem_of_getElem? (i := 24) rfl))) (Or.inr (hw _ (List.mem_of_getElem? (i := 18) rfl))) (by decide) (t := .long) (t' := .long) (by decide) (by decide)))
  have K2_ := K0.wr W2_ (Or.inl (List.mem_of_getElem? (i := 0) rfl))
  have N2_ := Fr.snoc X2_ N1_ ga
  refine own_fin st2_ ?_
  show own_Fin pP eE below _ (T2_.setTop (mkF mM 57 #[.val (.ref a), .val (.long q1), .second, .val (.int p2), .val (.int p3), .val (.long q4), .second] []))
  refine own_fin (b := T2_.setTop (mkF mM 59 #[.val (.ref a), .val (.long q1), .second, .val (.int p2), .val (.int p3), .val (.long q4), .second] [(.int p2), (.ref a)])) (fun tT kK => ?_) ?_
  · show Steps pP.tables eE below (T2_.setTop (mkF mM 57 #[.val (.ref a), .val (.long q1), .second, .val (.int p2), .val (.int p3), .val (.long q4), .second] [])) tT
    refine XS.aloadN X2_.here hx rfl (Jvm.hb hby own_d1_57) rfl rfl ?_
    show Steps pP.tables eE below (T2_.setTop (mkF mM 58 #[.val (.ref a), .val (.long q1), .second, .val (.int p2), .val (.int p3), .val (.long q4), .second] [(.ref a)])) tT
    refine XS.iloadN X2_.here hx rfl (Jvm.hb hby own_d1_58) rfl ?_
    show Steps pP.tables eE below (T2_.setTop (mkF mM 59 #[.val (.ref a), .val (.long q1), .second, .val (.int p2), .val (.int p3), .val (.long q4), .second] [(.int p2), (.ref a)])) tT
    exact kK
  obtain ⟨T7_, h7_, X7_, e7_, W7_, st7_⟩ := putF X2_ hx hZ hown (host := "") (Or.inl (hw _ (List.mem_of_getElem? (i := 19) rfl))) Via.refl e2_ fc4_ fc3_ (Or.inr ⟨(hw _ (List.mem_of_getElem? (i := 20) rfl)), rfl, hnm⟩) (hw _ (List.mem_of_getElem? (i := 3) rfl)) (ty := .int) (by decide) rfl rfl (g := (mkF mM 59 #[.val (.ref a), .val (.long q1), .second, .val (.int p2), .val (.int p3), .val (.long q4), .second] [(.int p2), (.ref a)])) rfl rfl (Jvm.hb hby own_d1_59)
  have Fw7_ := fc4_.same W7_
  have fc8_ := fc3_.wr W7_
  have fc9_ := Fw2_.other W7_ (Or.inr (slot_ne (Or.inr (hw _ (List.mem_of_getElem? (i := 18) rfl))) (Or.inr (hw _ (List.mem_of_getElem? (i := 20) rfl))) (by decide) (t := .long) (t' := .int) (by decide) (by decide)))
  have fc10_ := fc5_.other W7_ (Or.inr (slot_ne (Or.inr (hw _ (List.mem_of_getElem? (i := 22) rfl))) (Or.inr (hw _ (List.mem_of_getElem? (i := 20) rfl))) (by decide) (t := .int) (t' := .int) (by decide) (by decide)))
  have fc11_ := fc6_.other W7_ (Or.inr (slot_ne (Or.inr (hw _ (List.mem_of_getElem? (i := 24) rfl))) (Or.inr (hw _ (List.mem_of_getElem? (i := 20) rfl))) (by decide) (t := .long) (t' := .int) (by decide) (by decide)))
  have K7_ := K2_.wr W7_ (Or.inl (List.mem_of_getElem? (i := 0) rfl))
  have N7_ := Fr.snoc X7_ N2_ ga
  refine own_fin st7_ ?_
  show own_Fin pP eE below _ (T7_.setTop (mkF mM 62 #[.val (.ref a), .val (.long q1), .second, .val (.int p2), .val (.int p3), .val (.long q4), .second] []))
  refine own_fin (b := T7_.setTop (mkF mM 65 #[.val (.ref a), .val (.long q1), .second, .val (.int p2), .val (.int p3), .val (.long q4), .second] [(.int p3), (.ref a)])) (fun tT kK => ?_) ?_
  · show Steps pP.tables eE below (T7_.setTop (mkF mM 62 #[.val (.ref a), .val (.long q1), .second, .val (.int p2), .val (.int p3), .val (.long q4), .second] [])) tT
    refine XS.aloadN X7_.here hx rfl (Jvm.hb hby own_d1_62) rfl rfl ?_
    show Steps pP.tables eE below (T7_.setTop (mkF mM 63 #[.val (.ref a), .val (.long q1), .second, .val (.int p2), .val (.int p3), .val (.long q4), .second] [(.ref a)])) tT
    refine XS.iload X7_.here hx rfl (Jvm.hb hby own_d1_63) rfl ?_
    show Steps pP.tables eE below (T7_.setTop (mkF mM 65 #[.val (.ref a), .val (.long q1), .second, .val (.int p2), .val (.int p3), .val (.long q4), .second] [(.int p3), (.ref a)])) tT
    exact kK
  obtain ⟨T12_, h12_, X12_, e12_, W12_, st12_⟩ := putF X7_ hx hZ hown (host := "") (Or.inl (hw _ (List.mem_of_getElem? (i := 21) rfl))) Via.refl e7_ fc10_ fc8_ (Or.inr ⟨(hw _ (List.mem_of_getElem? (i := 22) rfl)), rfl, hnm⟩) (hw _ (List.mem_of_getElem? (i := 3) rfl)) (ty := .int) (by decide) rfl rfl (g := (mkF mM 65 #[.val (.ref a), .val (.long q1), .second, .val (.int p2), .val (.int p3), .val (.long q4), .second] [(.int p3), (.ref a)])) rfl rfl (Jvm.hb hby own_d1_65)
  have Fw12_ := fc10_.same W12_
  have fc13_ := fc8_.wr W12_
  have fc14_ := fc9_.other W12_ (Or.inr (slot_ne (Or.inr (hw _ (List.mem_of_getElem? (i := 18) rfl))) (Or.inr (hw _ (List.mem_of_getElem? (i := 22) rfl))) (by decide) (t := .long) (t' := .int) (by decide) (by decide)))
  have fc15_ := Fw7_.other W12_ (Or.inr (slot_ne (Or.inr (hw _ (List.mem_of_getElem? (i := 20) rfl))) (Or.inr (hw _ (List.mem_of_getElem? (i := 22) rfl))) (by decide) (t := .int) (t' := .int) (by decide) (by decide)))
  have fc16_ := fc11_.other W12_ (Or.inr (slot_ne (Or.inr (hw _ (List.mem_of_getElem? (i := 24) rfl))) (Or.inr (hw _ (List.mem_of_getElem? (i := 22) rfl))) (by decide) (t := .long) (t' := .int) (by decide) (by decide)))
  have K12_ := K7_.wr W12_ (Or.inl (List.mem_of_getElem? (i := 0) rfl))
  have N12_ := Fr.snoc X12_ N7_ ga
  refine own_fin st12_ ?_
  show own_Fin pP eE below _ (T12_.setTop (mkF mM 68 #[.val (.ref a), .val (.long q1), .second, .val (.int p2), .val (.int p3), .val (.long q4), .second] []))
  refine own_fin (b := T12_.setTop (mkF mM 71 #[.val (.ref a), .val (.long q1), .second, .val (.int p2), .val (.int p3), .val (.long q4), .second] [(.long q4), (.ref a)])) (fun tT kK => ?_) ?_
  · show Steps pP.tables eE below (T12_.setTop (mkF mM 68 #[.val (.ref a), .val (.long q1), .second, .val (.int p2), .val (.int p3), .val (.long q4), .second] [])) tT
    refine XS.aloadN X12_.here hx rfl (Jvm.hb hby own_d1_68) rfl rfl ?_
    show Steps pP.tables eE below (T12_.setTop (mkF mM 69 #[.val (.ref a), .val (.long q1), .second, .val (.int p2), .val (.int p3), .val (.long q4), .second] [(.ref a)])) tT
    refine XS.lload X12_.here hx rfl (Jvm.hb hby own_d1_69) rfl ?_
    show Steps pP.tables eE below (T12_.setTop (mkF mM 71 #[.val (.ref a), .val (.long q1), .second, .val (.int p2), .val (.int p3), .val (.long q4), .second] [(.long q4), (.ref a)])) tT
    exact kK
  obtain ⟨T17_, h17_, X17_, e17_, W17_, st17_⟩ := putF X12_ hx hZ hown (host := "") (Or.inl (hw _ (List.mem_of_getElem? (i := 23) rfl))) Via.refl e12_ fc16_ fc13_ (Or.inr ⟨(hw _ (List.mem_of_getElem? (i := 24) rfl)), rfl, hnm⟩) (hw _ (List.mem_of_getElem? (i := 3) rfl)) (ty := .long) (by decide) rfl rfl (g := (mkF mM 71 #[.val (.ref a), .val (.long q1), .second, .val (.int p2), .val (.int p3), .val (.long q4), .second] [(.long q4), (.ref a)])) rfl rfl (Jvm.hb hby own_d1_71)
  have Fw17_ := fc16_.same W17_
  have fc18_ := fc13_.wr W17_
  have fc19_ := fc14_.other W17_ (Or.inr (slot_ne (Or.inr (hw _ (List.mem_of_getElem? (i := 18) rfl))) (Or.inr (hw _ (List.mem_of_getElem? (i := 24) rfl))) (by decide) (t := .long) (t' := .long) (by decide) (by decide)))
  have fc20_ := fc15_.other W17_ (Or.inr (slot_ne (Or.inr (hw _ (List.mem_of_getElem? (i := 20) rfl))) (Or.inr (hw _ (List.mem_of_getElem? (i := 24) rfl))) (by decide) (t := .int) (t' := .long) (by decide) (by decide)))
  have fc21_ := Fw12_.other W17_ (Or.inr (slot_ne (Or.inr (hw _ (List.mem_of_getElem? (i := 22) rfl))) (Or.inr (hw _ (List.mem_of_getElem? (i := 24) rfl))) (by decide) (t := .int) (t' := .long) (by decide) (by decide)))
  have K17_ := K12_.wr W17_ (Or.inl (List.mem_of_getElem? (i := 0) rfl))
  have N17_ := Fr.snoc X17_ N12_ ga
  refine own_fin st17_ ?_
  show own_Fin pP eE below _ (T17_.setTop (mkF mM 74 #[.val (.ref a), .val (.long q1), .second, .val (.int p2), .val (.int p3), .val (.long q4), .second] []))
  obtain ⟨fs, hr, hrun, hended, hW, hsame⟩ := X17_.leave (v := none) (fun _ => rfl)
  refine ⟨_, _, ?_, hrun, hended, _, _, rfl, ?_, ⟨_, rfl⟩, hW, hsame.mono (by decide) (by decide)⟩
  · show Steps pP.tables eE below (T17_.setTop (mkF mM 74 #[.val (.ref a), .val (.long q1), .second, .val (.int p2), .val (.int p3), .val (.long q4), .second] [])) _
    exact X17_.returnOut hx Bd.returns (Jvm.hb hby own_d1_74) hr
  · show Q_rm_rd Z a q1 p2 p3 q4 h0 n0 _ T17_.heap _
    rw [e17_]
    exact ⟨rfl, N17_, K17_, fc18_⟩
theorem own_d4_0 : decode prog_62_method_1_code 0 = .ok (.aload_n 0, 1) := by decide +kernel
theorem own_d4_1 : decode prog_62_method_1_code 1 = .ok (.invokespecial 1, 3) := by decide +kernel
theorem own_d4_4 : decode prog_62_method_1_code 4 = .ok (.aload_n 0, 1) := by decide +kernel
theorem own_d4_5 : decode prog_62_method_1_code 5 = .ok (.aload_n 1, 1) := by decide +kernel
theorem own_d4_6 : decode prog_62_method_1_code 6 = .ok (.putfield 7, 3) := by decide +kernel
theorem own_d4_9 : decode prog_62_method_1_code 9 = .ok (.aload_n 0, 1) := by decide +kernel
theorem own_d4_10 : decode prog_62_method_1_code 10 = .ok (.lload_n 2, 1) := by decide +kernel
theorem own_d4_11 : decode prog_62_method_1_code 11 = .ok (.putfield 13, 3) := by decide +kernel
theorem own_d4_14 : decode prog_62_method_1_code 14 = .ok (.return_, 1) := by decide +kernel
theorem own_pn_com_example_portion_portion_server_Retry : plainName "com/example/portion/portion/server/Retry" = true := by first | (simp [plainName, overriddenIn]; done) | decide +kernel
theorem own_ef_rm_rt (mM : MethodId) (x0 : Addr) (x1 : Addr) (x2 : Int64) : entryFrame mM #[(.ref x0), (.ref x1), (.long x2)] 4 = mkF mM 0 #[.val (.ref x0), .val (.ref x1), .val (.long x2), .second] [] := by first | (simp [entryFrame, mkF, argsToLocals, Value.category]; done) | rfl
def Q_rm_rt (Z : State) (a : Addr) (b : Addr) (q2 : Int64) (h0 : Heap) (n0 : Nat) (vV : Option Value) (hH : Heap) (lA : List Loc) : Prop := vV = none ∧ Fr n0 lA ∧ (Keep h0 hH [a]) ∧ (Exa Z hH a "com/example/portion/portion/server/Retry") ∧ (Fld Z hH a "com/example/portion/portion/server/Retry" "position" "J" (.long q2))
set_option maxRecDepth 65536 in
set_option maxHeartbeats 40000000 in
theorem rm_rt (lL : Launch) (Z : State) (a0 : Array Value) (hw : ∀ d ∈ tables_1, d.before a0 Z = true) (ws : List Jvm.Cond) (a : Addr) (b : Addr) (q2 : Int64) (h0 : Heap) (n0 : Nat) (Z0 : n0 ≤ h0.size) (Ea : Exa Z h0 a "com/example/portion/portion/server/Retry") (F1 : Fld Z h0 a "com/example/portion/portion/server/Retry" "redelivery" "Lcom/example/portion/portion/server/Redelivery;" .null) (F2 : Fld Z h0 a "com/example/portion/portion/server/Retry" "position" "J" (.long (0 : Int64))) (ga : n0 ≤ a) :
    MetFree lL (⟨"com/example/portion/portion/server/Retry", "<init>", "(Lcom/example/portion/portion/server/Redelivery;J)V"⟩ : MethodName) (head1 (Jvm.Cond.code (⟨"com/example/portion/portion/server/Retry", "<init>", "(Lcom/example/portion/portion/server/Redelivery;J)V"⟩ : MethodName) prog_62_method_1_code 4 none :: ws) ({ frames := 2, cells := 0, slots := 0, locals := 24 } : Room)) (fun aA uU => aA = #[(.ref a), (.ref b), (.long q2)] ∧ Z.Warmed39 uU.vm ∧ uU.heap = h0) (fun _ _ _ _ _ => True) (fun _ uU oO uU' => ∃ vV lA, oO = .returned vV ∧ Q_rm_rt Z a b q2 h0 n0 vV uU'.heap lA ∧ FrameEnd uU oO uU' lA ({ frames := 2, cells := 0, slots := 0, locals := 24 } : Room).cells ({ frames := 2, cells := 0, slots := 0, locals := 24 } : Room).slots) := by
  refine MetFree.of_bodySF (plainFor_of_name own_pn_com_example_portion_portion_server_Retry) hisR ?_
  intro pP eE sS mM args below meth cC s₁ Bd hml0 hP hK
  obtain ⟨rfl, hZ, hh⟩ := hP
  have hx := Bd.exec
  have hby := Bd.bytes
  have hml : cC.maxLocals = 4 := hml0
  have hown : sS.vm.findClass "com/example/portion/portion/server/Retry" = some mM.cls := findClass_of_methodNamed Bd.named
  have hnm := (name_of_methodNamed Bd.named Bd.method).1
  have X0 : Stand pP lL eE ({ frames := 2, cells := 0, slots := 0, locals := 24 } : Room) sS mM #[(.ref a), (.ref b), (.long q2)] below meth cC s₁ [] 0 0 := Stand.of_body Bd
  have e0 : s₁.heap = h0 := by rw [← hh, Bd.state]; rfl
  have N0 := Fr.nil n0
  have K0 := Keep.refl h0 [a]
  show own_Fin pP eE below (fun tT oO => ∃ vV lA, oO = .returned vV ∧ Q_rm_rt Z a b q2 h0 n0 vV tT.heap lA ∧ FrameEnd sS oO tT lA ({ frames := 2, cells := 0, slots := 0, locals := 24 } : Room).cells ({ frames := 2, cells := 0, slots := 0, locals := 24 } : Room).slots) (s₁.setTop (entryFrame mM #[(.ref a), (.ref b), (.long q2)] 4))
  refine own_fin (b := s₁.setTop (mkF mM 0 #[.val (.ref a), .val (.ref b), .val (.long q2), .second] [])) (fun tT kK => castTop (own_ef_rm_rt mM a b q2) kK) ?_
  refine own_fin (b := s₁.setTop (mkF mM 1 #[.val (.ref a), .val (.ref b), .val (.long q2), .second] [(.ref a)])) (fun tT kK => ?_) ?_
  · show Steps pP.tables eE below (s₁.setTop (mkF mM 0 #[.val (.ref a), .val (.ref b), .val (.long q2), .second] [])) tT
    refine XS.aloadN X0.here hx rfl (Jvm.hb hby own_d4_0) rfl rfl ?_
    show Steps pP.tables eE below (s₁.setTop (mkF mM 1 #[.val (.ref a), .val (.ref b), .val (.long q2), .second] [(.ref a)])) tT
    exact kK
  obtain ⟨_, _, ⟨T1_, L1_, k1_, n1_⟩, -, X1_, ⟨Lc1_, hQ1_, l1_, y1_, z1_⟩, st1_⟩ := X0.specialBack hx (y := (⟨"java/lang/Record", "<init>", "()V"⟩ : MethodName)) rfl hown (mvT hZ (hw _ (List.mem_of_getElem? (i := 31) rfl))) (mvT hZ (hw _ (List.mem_of_getElem? (i := 10) rfl))) (mvT hZ (hw _ (List.mem_of_getElem? (i := 13) rfl))) (by decide) (backOf (W := 0) (rm_rec lL Z a0 hw [] a h0 n0 (Nat.le_trans Z0 K0.1) ) hZ (hw _ (List.mem_of_getElem? (i := 13) rfl)) (hw _ (List.mem_of_getElem? (i := 12) rfl)) (by decide) (by decide)) (g := (mkF mM 1 #[.val (.ref a), .val (.ref b), .val (.long q2), .second] [(.ref a)])) rfl (by rw [hml]; rfl) (Steps.refl _) (a := a) (argsL := []) (rest := []) (lenOf own_pd0 rfl) rfl (by show 2 * 0 + _ ≤ _; exact Nat.le_of_eq rfl) (Jvm.hb hby own_d4_1) (fun _ _ => ⟨rfl, e0, (by decide : 0 + 0 ≤ _), (by decide : 0 + 0 ≤ _)⟩)
  dsimp only [Pt.U, Pt.locs, Pt.cells, Pt.slots] at X1_ l1_ y1_ z1_ st1_ hQ1_
  subst l1_ y1_ z1_
  obtain ⟨rfl, N1_q, p1__0⟩ := hQ1_
  have N1_ := Fr.app N0 N1_q
  refine own_fin (fun tT kK => st1_.trans kK) ?_
  show own_Fin pP eE below _ (T1_.setTop (mkF mM 4 #[.val (.ref a), .val (.ref b), .val (.long q2), .second] []))
  refine own_fin (b := T1_.setTop (mkF mM 6 #[.val (.ref a), .val (.ref b), .val (.long q2), .second] [(.ref b), (.ref a)])) (fun tT kK => ?_) ?_
  · show Steps pP.tables eE below (T1_.setTop (mkF mM 4 #[.val (.ref a), .val (.ref b), .val (.long q2), .second] [])) tT
    refine XS.aloadN X1_.here hx rfl (Jvm.hb hby own_d4_4) rfl rfl ?_
    show Steps pP.tables eE below (T1_.setTop (mkF mM 5 #[.val (.ref a), .val (.ref b), .val (.long q2), .second] [(.ref a)])) tT
    refine XS.aloadN X1_.here hx rfl (Jvm.hb hby own_d4_5) rfl rfl ?_
    show Steps pP.tables eE below (T1_.setTop (mkF mM 6 #[.val (.ref a), .val (.ref b), .val (.long q2), .second] [(.ref b), (.ref a)])) tT
    exact kK
  obtain ⟨T2_, h2_, X2_, e2_, W2_, st2_⟩ := putF X1_ hx hZ hown (host := "") (Or.inl (hw _ (List.mem_of_getElem? (i := 32) rfl))) Via.refl p1__0 F1 Ea (Or.inr ⟨(hw _ (List.mem_of_getElem? (i := 33) rfl)), rfl, hnm⟩) (hw _ (List.mem_of_getElem? (i := 26) rfl)) (ty := (.object "com/example/portion/portion/server/Redelivery")) (by decide) rfl rfl (g := (mkF mM 6 #[.val (.ref a), .val (.ref b), .val (.long q2), .second] [(.ref b), (.ref a)])) rfl rfl (Jvm.hb hby own_d4_6)
  have Fw2_ := F1.same W2_
  have fc3_ := Ea.wr W2_
  have fc4_ := F2.other W2_ (Or.inr (slot_ne (Or.inr (hw _ (List.mem_of_getElem? (i := 35) rfl))) (Or.inr (hw _ (List.mem_of_getElem? (i := 33) rfl))) (by decide) (t := .long) (t' := (.object "com/example/portion/portion/server/Redelivery")) (by decide) (by decide)))
  have K2_ := K0.wr W2_ (Or.inl (List.mem_of_getElem? (i := 0) rfl))
  have N2_ := Fr.snoc X2_ N1_ ga
  refine own_fin st2_ ?_
  show own_Fin pP eE below _ (T2_.setTop (mkF mM 9 #[.val (.ref a), .val (.ref b), .val (.long q2), .second] []))
  refine own_fin (b := T2_.setTop (mkF mM 11 #[.val (.ref a), .val (.ref b), .val (.long q2), .second] [(.long q2), (.ref a)])) (fun tT kK => ?_) ?_
  · show Steps pP.tables eE below (T2_.setTop (mkF mM 9 #[.val (.ref a), .val (.ref b), .val (.long q2), .second] [])) tT
    refine XS.aloadN X2_.here hx rfl (Jvm.hb hby own_d4_9) rfl rfl ?_
    show Steps pP.tables eE below (T2_.setTop (mkF mM 10 #[.val (.ref a), .val (.ref b), .val (.long q2), .second] [(.ref a)])) tT
    refine XS.lloadN X2_.here hx rfl (Jvm.hb hby own_d4_10) rfl ?_
    show Steps pP.tables eE below (T2_.setTop (mkF mM 11 #[.val (.ref a), .val (.ref b), .val (.long q2), .second] [(.long q2), (.ref a)])) tT
    exact kK
  obtain ⟨T5_, h5_, X5_, e5_, W5_, st5_⟩ := putF X2_ hx hZ hown (host := "") (Or.inl (hw _ (List.mem_of_getElem? (i := 34) rfl))) Via.refl e2_ fc4_ fc3_ (Or.inr ⟨(hw _ (List.mem_of_getElem? (i := 35) rfl)), rfl, hnm⟩) (hw _ (List.mem_of_getElem? (i := 26) rfl)) (ty := .long) (by decide) rfl rfl (g := (mkF mM 11 #[.val (.ref a), .val (.ref b), .val (.long q2), .second] [(.long q2), (.ref a)])) rfl rfl (Jvm.hb hby own_d4_11)
  have Fw5_ := fc4_.same W5_
  have fc6_ := fc3_.wr W5_
  have fc7_ := Fw2_.other W5_ (Or.inr (slot_ne (Or.inr (hw _ (List.mem_of_getElem? (i := 33) rfl))) (Or.inr (hw _ (List.mem_of_getElem? (i := 35) rfl))) (by decide) (t := (.object "com/example/portion/portion/server/Redelivery")) (t' := .long) (by decide) (by decide)))
  have K5_ := K2_.wr W5_ (Or.inl (List.mem_of_getElem? (i := 0) rfl))
  have N5_ := Fr.snoc X5_ N2_ ga
  refine own_fin st5_ ?_
  show own_Fin pP eE below _ (T5_.setTop (mkF mM 14 #[.val (.ref a), .val (.ref b), .val (.long q2), .second] []))
  obtain ⟨fs, hr, hrun, hended, hW, hsame⟩ := X5_.leave (v := none) (fun _ => rfl)
  refine ⟨_, _, ?_, hrun, hended, _, _, rfl, ?_, ⟨_, rfl⟩, hW, hsame.mono (by decide) (by decide)⟩
  · show Steps pP.tables eE below (T5_.setTop (mkF mM 14 #[.val (.ref a), .val (.ref b), .val (.long q2), .second] [])) _
    exact X5_.returnOut hx Bd.returns (Jvm.hb hby own_d4_14) hr
  · show Q_rm_rt Z a b q2 h0 n0 _ T5_.heap _
    rw [e5_]
    exact ⟨rfl, N5_, K5_, fc6_, Fw5_⟩
theorem own_d5_0 : decode prog_62_method_4_code 0 = .ok (.aload_n 0, 1) := by decide +kernel
theorem own_d5_1 : decode prog_62_method_4_code 1 = .ok (.getfield 13, 3) := by decide +kernel
theorem own_d5_4 : decode prog_62_method_4_code 4 = .ok (.lconst 0, 1) := by decide +kernel
theorem own_d5_5 : decode prog_62_method_4_code 5 = .ok (.lcmp, 1) := by decide +kernel
theorem own_d5_6 : decode prog_62_method_4_code 6 = .ok (.ifCond .lt 7, 3) := by decide +kernel
theorem own_d5_13 : decode prog_62_method_4_code 13 = .ok (.iconst 0, 1) := by decide +kernel
theorem own_d5_14 : decode prog_62_method_4_code 14 = .ok (.ireturn, 1) := by decide +kernel
theorem own_d5_9 : decode prog_62_method_4_code 9 = .ok (.iconst 1, 1) := by decide +kernel
theorem own_d5_10 : decode prog_62_method_4_code 10 = .ok (.goto 4, 3) := by decide +kernel
theorem own_ef_rm_is (mM : MethodId) (x0 : Addr) : entryFrame mM #[(.ref x0)] 1 = mkF mM 0 #[.val (.ref x0)] [] := by first | (simp [entryFrame, mkF, argsToLocals, Value.category]; done) | rfl
def Q_rm_is (Z : State) (a : Addr) (q : Int64) (h0 : Heap) (n0 : Nat) (vV : Option Value) (hH : Heap) (lA : List Loc) : Prop := vV = some (.int (if q < (0 : Int64) then (0 : Int32) else (1 : Int32))) ∧ Fr n0 lA ∧ (hH = h0)
set_option maxRecDepth 65536 in
set_option maxHeartbeats 40000000 in
theorem rm_is (lL : Launch) (Z : State) (a0 : Array Value) (hw : ∀ d ∈ tables_1, d.before a0 Z = true) (ws : List Jvm.Cond) (a : Addr) (q : Int64) (h0 : Heap) (n0 : Nat) (Z0 : n0 ≤ h0.size) (Fa : Fld Z h0 a "com/example/portion/portion/server/Retry" "position" "J" (.long q)) :
    MetFree lL (⟨"com/example/portion/portion/server/Retry", "isLogged", "()Z"⟩ : MethodName) (head1 (Jvm.Cond.code (⟨"com/example/portion/portion/server/Retry", "isLogged", "()Z"⟩ : MethodName) prog_62_method_4_code 1 (some .boolean) :: ws) ({ frames := 0, cells := 0, slots := 0, locals := 0 } : Room)) (fun aA uU => aA = #[(.ref a)] ∧ Z.Warmed39 uU.vm ∧ uU.heap = h0) (fun _ _ _ _ _ => True) (fun _ uU oO uU' => ∃ vV lA, oO = .returned vV ∧ Q_rm_is Z a q h0 n0 vV uU'.heap lA ∧ FrameEnd uU oO uU' lA ({ frames := 0, cells := 0, slots := 0, locals := 0 } : Room).cells ({ frames := 0, cells := 0, slots := 0, locals := 0 } : Room).slots) := by
  refine MetFree.of_bodySF (plainFor_of_name own_pn_com_example_portion_portion_server_Retry) hisR ?_
  intro pP eE sS mM args below meth cC s₁ Bd hml0 hP hK
  obtain ⟨rfl, hZ, hh⟩ := hP
  have hx := Bd.exec
  have hby := Bd.bytes
  have hml : cC.maxLocals = 1 := hml0
  have hown : sS.vm.findClass "com/example/portion/portion/server/Retry" = some mM.cls := findClass_of_methodNamed Bd.named
  have hnm := (name_of_methodNamed Bd.named Bd.method).1
  have X0 : Stand pP lL eE ({ frames := 0, cells := 0, slots := 0, locals := 0 } : Room) sS mM #[(.ref a)] below meth cC s₁ [] 0 0 := Stand.of_body Bd
  have e0 : s₁.heap = h0 := by rw [← hh, Bd.state]; rfl
  have N0 := Fr.nil n0
  have K0 := Keep.refl h0 ([] : List Addr)
  show own_Fin pP eE below (fun tT oO => ∃ vV lA, oO = .returned vV ∧ Q_rm_is Z a q h0 n0 vV tT.heap lA ∧ FrameEnd sS oO tT lA ({ frames := 0, cells := 0, slots := 0, locals := 0 } : Room).cells ({ frames := 0, cells := 0, slots := 0, locals := 0 } : Room).slots) (s₁.setTop (entryFrame mM #[(.ref a)] 1))
  refine own_fin (b := s₁.setTop (mkF mM 0 #[.val (.ref a)] [])) (fun tT kK => castTop (own_ef_rm_is mM a) kK) ?_
  refine own_fin (b := s₁.setTop (mkF mM 1 #[.val (.ref a)] [(.ref a)])) (fun tT kK => ?_) ?_
  · show Steps pP.tables eE below (s₁.setTop (mkF mM 0 #[.val (.ref a)] [])) tT
    refine XS.aloadN X0.here hx rfl (Jvm.hb hby own_d5_0) rfl rfl ?_
    show Steps pP.tables eE below (s₁.setTop (mkF mM 1 #[.val (.ref a)] [(.ref a)])) tT
    exact kK
  obtain ⟨T1_, X1_, e1_, st1_⟩ := getF X0 hx hZ hown (host := "") (Or.inl (hw _ (List.mem_of_getElem? (i := 34) rfl))) Via.refl e0 Fa (g := (mkF mM 1 #[.val (.ref a)] [(.ref a)])) rfl rfl (Jvm.hb hby own_d5_1)
  refine own_fin st1_ ?_
  show own_Fin pP eE below _ (T1_.setTop (mkF mM 4 #[.val (.ref a)] [(.long q)]))
  refine own_fin (b := T1_.setTop (mkF mM 6 #[.val (.ref a)] [(.int (lcmpW q (0 : Int64)))])) (fun tT kK => ?_) ?_
  · show Steps pP.tables eE below (T1_.setTop (mkF mM 4 #[.val (.ref a)] [(.long q)])) tT
    refine XS.lconst X1_.here hx rfl (Jvm.hb hby own_d5_4) ?_
    show Steps pP.tables eE below (T1_.setTop (mkF mM 5 #[.val (.ref a)] [(.long (0 : Int64)), (.long q)])) tT
    refine XS.lcmp X1_.here hx rfl (Jvm.hb hby own_d5_5) rfl ?_
    show Steps pP.tables eE below (T1_.setTop (mkF mM 6 #[.val (.ref a)] [(.int (lcmpW q (0 : Int64)))])) tT
    exact kK
  by_cases hc6_2_ : q < (0 : Int64)
  · refine own_fin (b := T1_.setTop (mkF mM 14 #[.val (.ref a)] [(.int (0 : Int32))])) (fun tT kK => ?_) ?_
    · show Steps pP.tables eE below (T1_.setTop (mkF mM 6 #[.val (.ref a)] [(.int (lcmpW q (0 : Int64)))])) tT
      refine XS.ifYes X1_.here hx rfl (pc0 := 6) (pc' := 13) rfl (Jvm.hb hby own_d5_6) rfl ((if0 _ _).trans (tlt ((lw_lt q (0 : Int64)).mpr (hc6_2_ : q < (0 : Int64)))).1) (by decide) (by decide) ?_
      show Steps pP.tables eE below (T1_.setTop (mkF mM 13 #[.val (.ref a)] [])) tT
      refine XS.iconst X1_.here hx rfl (Jvm.hb hby own_d5_13) ?_
      show Steps pP.tables eE below (T1_.setTop (mkF mM 14 #[.val (.ref a)] [(.int (0 : Int32))])) tT
      exact kK
    obtain ⟨fs, hr, hrun, hended, hW, hsame⟩ := X1_.leave (v := some (.int (0 : Int32))) (fun h => by rw [Bd.returns] at h; cases h)
    refine ⟨_, _, ?_, hrun, hended, _, _, rfl, ?_, ⟨_, rfl⟩, hW, hsame.mono (by decide) (by decide)⟩
    · show Steps pP.tables eE below (T1_.setTop (mkF mM 14 #[.val (.ref a)] [(.int (0 : Int32))])) _
      exact retN X1_ hx (t := .boolean) Bd.returns (by simp) (Jvm.hb hby own_d5_14) hr
    · show Q_rm_is Z a q h0 n0 _ T1_.heap _
      rw [e1_]
      exact ⟨by rw [if_pos hc6_2_], N0, rfl⟩
  · refine own_fin (b := T1_.setTop (mkF mM 14 #[.val (.ref a)] [(.int (1 : Int32))])) (fun tT kK => ?_) ?_
    · show Steps pP.tables eE below (T1_.setTop (mkF mM 6 #[.val (.ref a)] [(.int (lcmpW q (0 : Int64)))])) tT
      refine XS.ifNo X1_.here hx rfl (Jvm.hb hby own_d5_6) rfl ((if0 _ _).trans (flt (mt (lw_lt q (0 : Int64)).mp (hc6_2_ : ¬ (q < (0 : Int64))))).1) ?_
      show Steps pP.tables eE below (T1_.setTop (mkF mM 9 #[.val (.ref a)] [])) tT
      refine XS.iconst X1_.here hx rfl (Jvm.hb hby own_d5_9) ?_
      show Steps pP.tables eE below (T1_.setTop (mkF mM 10 #[.val (.ref a)] [(.int (1 : Int32))])) tT
      refine XS.goto X1_.here hx rfl (pc0 := 10) (pc' := 14) rfl (Jvm.hb hby own_d5_10) (by decide) (by decide) ?_
      show Steps pP.tables eE below (T1_.setTop (mkF mM 14 #[.val (.ref a)] [(.int (1 : Int32))])) tT
      exact kK
    obtain ⟨fs, hr, hrun, hended, hW, hsame⟩ := X1_.leave (v := some (.int (1 : Int32))) (fun h => by rw [Bd.returns] at h; cases h)
    refine ⟨_, _, ?_, hrun, hended, _, _, rfl, ?_, ⟨_, rfl⟩, hW, hsame.mono (by decide) (by decide)⟩
    · show Steps pP.tables eE below (T1_.setTop (mkF mM 14 #[.val (.ref a)] [(.int (1 : Int32))])) _
      exact retN X1_ hx (t := .boolean) Bd.returns (by simp) (Jvm.hb hby own_d5_14) hr
    · show Q_rm_is Z a q h0 n0 _ T1_.heap _
      rw [e1_]
      exact ⟨by rw [if_neg hc6_2_], N0, rfl⟩
theorem own_pd1 : parseMethodDescriptor "(JIIJ)V" = some ⟨[.long, .int, .int, .long], none⟩ := by decide +kernel
theorem own_pd2 : parseMethodDescriptor "(Lcom/example/portion/portion/server/Redelivery;J)V" = some ⟨[(.object "com/example/portion/portion/server/Redelivery"), .long], none⟩ := by decide +kernel
theorem own_pd3 : parseMethodDescriptor "()Z" = some ⟨[], some .boolean⟩ := by decide +kernel
theorem own_pn_com_example_portion_portion_server_RetryIsLoggedPinLaw : plainName "com/example/portion/portion/server/RetryIsLoggedPinLaw" = true := by first | (simp [plainName, overriddenIn]; done) | decide +kernel
theorem own_ef_rm0 (mM : MethodId) (x0 : Int64) (x1 : Int32) (x2 : Int32) (x3 : Int64) (x4 : Int64) : entryFrame mM #[(.long x0), (.int x1), (.int x2), (.long x3), (.long x4)] maxLocals = mkF mM 0 #[.val (.long x0), .second, .val (.int x1), .val (.int x2), .val (.long x3), .second, .val (.long x4), .second, .unset, .unset, .unset, .unset, .unset] [] := by first | (simp [entryFrame, mkF, argsToLocals, Value.category, maxLocals]; done) | rfl
def Q_rm0 (Z : State) (q1 : Int64) (p2 : Int32) (p3 : Int32) (q4 : Int64) (q5 : Int64) (h0 : Heap) (n0 : Nat) (vV : Option Value) (hH : Heap) (lA : List Loc) : Prop := vV = some (.int (1 : Int32)) ∧ Fr n0 lA
set_option maxRecDepth 65536 in
set_option maxHeartbeats 40000000 in
theorem rm0 (lL : Launch) (Z : State) (a0 : Array Value) (hw : ∀ d ∈ tables_1, d.before a0 Z = true) (ws : List Jvm.Cond) (q1 : Int64) (p2 : Int32) (p3 : Int32) (q4 : Int64) (q5 : Int64) (h0 : Heap) (n0 : Nat) (Z0 : n0 ≤ h0.size) :
    MetFree lL x (head1 (Jvm.Cond.code x code maxLocals ret :: ws) room_1) (fun aA uU => aA = #[(.long q1), (.int p2), (.int p3), (.long q4), (.long q5)] ∧ Z.Warmed39 uU.vm ∧ uU.heap = h0) (fun _ _ _ _ _ => True) (fun _ uU oO uU' => ∃ vV lA, oO = .returned vV ∧ Q_rm0 Z q1 p2 p3 q4 q5 h0 n0 vV uU'.heap lA ∧ FrameEnd uU oO uU' lA room_1.cells room_1.slots) := by
  refine MetFree.of_bodySF (plainFor_of_name own_pn_com_example_portion_portion_server_RetryIsLoggedPinLaw) hisR ?_
  intro pP eE sS mM args below meth cC s₁ Bd hml0 hP hK
  obtain ⟨rfl, hZ, hh⟩ := hP
  have hx := Bd.exec
  have hby := Bd.bytes
  have hml : cC.maxLocals = 13 := hml0
  have hown : sS.vm.findClass "com/example/portion/portion/server/RetryIsLoggedPinLaw" = some mM.cls := findClass_of_methodNamed Bd.named
  have hnm := (name_of_methodNamed Bd.named Bd.method).1
  have X0 : Stand pP lL eE room_1 sS mM #[(.long q1), (.int p2), (.int p3), (.long q4), (.long q5)] below meth cC s₁ [] 0 0 := Stand.of_body Bd
  have e0 : s₁.heap = h0 := by rw [← hh, Bd.state]; rfl
  have N0 := Fr.nil n0
  have K0 := Keep.refl h0 ([] : List Addr)
  show own_Fin pP eE below (fun tT oO => ∃ vV lA, oO = .returned vV ∧ Q_rm0 Z q1 p2 p3 q4 q5 h0 n0 vV tT.heap lA ∧ FrameEnd sS oO tT lA room_1.cells room_1.slots) (s₁.setTop (entryFrame mM #[(.long q1), (.int p2), (.int p3), (.long q4), (.long q5)] maxLocals))
  refine own_fin (b := s₁.setTop (mkF mM 0 #[.val (.long q1), .second, .val (.int p2), .val (.int p3), .val (.long q4), .second, .val (.long q5), .second, .unset, .unset, .unset, .unset, .unset] [])) (fun tT kK => castTop (own_ef_rm0 mM q1 p2 p3 q4 q5) kK) ?_
  refine own_fin (b := s₁.setTop (mkF mM 8 #[.val (.long q1), .second, .val (.int p2), .val (.int p3), .val (.long q4), .second, .val (.long q5), .second, .val (.int ((p2 &&& (1073741823 : Int32)) + (1 : Int32))), .unset, .unset, .unset, .unset] [])) (fun tT kK => ?_) ?_
  · show Steps pP.tables eE below (s₁.setTop (mkF mM 0 #[.val (.long q1), .second, .val (.int p2), .val (.int p3), .val (.long q4), .second, .val (.long q5), .second, .unset, .unset, .unset, .unset, .unset] [])) tT
    refine XS.iloadN X0.here hx rfl (Jvm.hb hby at_0) rfl ?_
    show Steps pP.tables eE below (s₁.setTop (mkF mM 1 #[.val (.long q1), .second, .val (.int p2), .val (.int p3), .val (.long q4), .second, .val (.long q5), .second, .unset, .unset, .unset, .unset, .unset] [(.int p2)])) tT
    refine X0.ldcInt hx hown (mvT hZ (hw _ (List.mem_of_getElem? (i := 0) rfl))) (g := (mkF mM 1 #[.val (.long q1), .second, .val (.int p2), .val (.int p3), .val (.long q4), .second, .val (.long q5), .second, .unset, .unset, .unset, .unset, .unset] [(.int p2)])) rfl (Jvm.hb hby at_1) _ ?_
    show Steps pP.tables eE below (s₁.setTop (mkF mM 3 #[.val (.long q1), .second, .val (.int p2), .val (.int p3), .val (.long q4), .second, .val (.long q5), .second, .unset, .unset, .unset, .unset, .unset] [(.int (1073741823 : Int32)), (.int p2)])) tT
    refine XS.iand X0.here hx rfl (Jvm.hb hby at_3) rfl ?_
    show Steps pP.tables eE below (s₁.setTop (mkF mM 4 #[.val (.long q1), .second, .val (.int p2), .val (.int p3), .val (.long q4), .second, .val (.long q5), .second, .unset, .unset, .unset, .unset, .unset] [(.int (p2 &&& (1073741823 : Int32)))])) tT
    refine XS.iconst X0.here hx rfl (Jvm.hb hby at_4) ?_
    show Steps pP.tables eE below (s₁.setTop (mkF mM 5 #[.val (.long q1), .second, .val (.int p2), .val (.int p3), .val (.long q4), .second, .val (.long q5), .second, .unset, .unset, .unset, .unset, .unset] [(.int (1 : Int32)), (.int (p2 &&& (1073741823 : Int32)))])) tT
    refine XS.iadd X0.here hx rfl (Jvm.hb hby at_5) rfl ?_
    show Steps pP.tables eE below (s₁.setTop (mkF mM 6 #[.val (.long q1), .second, .val (.int p2), .val (.int p3), .val (.long q4), .second, .val (.long q5), .second, .unset, .unset, .unset, .unset, .unset] [(.int ((p2 &&& (1073741823 : Int32)) + (1 : Int32)))])) tT
    refine XS.istore X0.here hx rfl (Jvm.hb hby at_6) rfl (l' := #[.val (.long q1), .second, .val (.int p2), .val (.int p3), .val (.long q4), .second, .val (.long q5), .second, .val (.int ((p2 &&& (1073741823 : Int32)) + (1 : Int32))), .unset, .unset, .unset, .unset]) rfl ?_
    show Steps pP.tables eE below (s₁.setTop (mkF mM 8 #[.val (.long q1), .second, .val (.int p2), .val (.int p3), .val (.long q4), .second, .val (.long q5), .second, .val (.int ((p2 &&& (1073741823 : Int32)) + (1 : Int32))), .unset, .unset, .unset, .unset] [])) tT
    exact kK
  show own_Fin pP eE below _ (s₁.setTop (mkF mM 8 #[.val (.long q1), .second, .val (.int p2), .val (.int p3), .val (.long q4), .second, .val (.long q5), .second, .val (.int ((p2 &&& (1073741823 : Int32)) + (1 : Int32))), .unset, .unset, .unset, .unset] []))
  generalize hdv : ((p2 &&& (1073741823 : Int32)) + (1 : Int32)) = dv
  show own_Fin pP eE below _ (s₁.setTop (mkF mM 8 #[.val (.long q1), .second, .val (.int p2), .val (.int p3), .val (.long q4), .second, .val (.long q5), .second, .val (.int dv), .unset, .unset, .unset, .unset] []))
  have hd := own_dv hdv
  refine own_fin (b := s₁.setTop (mkF mM 19 #[.val (.long q1), .second, .val (.int p2), .val (.int p3), .val (.long q4), .second, .val (.long q5), .second, .val (.int dv), .val (.int ((p3 &&& (2147483647 : Int32)) % (dv + (1 : Int32)))), .unset, .unset, .unset] [])) (fun tT kK => ?_) ?_
  · show Steps pP.tables eE below (s₁.setTop (mkF mM 8 #[.val (.long q1), .second, .val (.int p2), .val (.int p3), .val (.long q4), .second, .val (.long q5), .second, .val (.int dv), .unset, .unset, .unset, .unset] [])) tT
    refine XS.iloadN X0.here hx rfl (Jvm.hb hby at_8) rfl ?_
    show Steps pP.tables eE below (s₁.setTop (mkF mM 9 #[.val (.long q1), .second, .val (.int p2), .val (.int p3), .val (.long q4), .second, .val (.long q5), .second, .val (.int dv), .unset, .unset, .unset, .unset] [(.int p3)])) tT
    refine X0.ldcInt hx hown (mvT hZ (hw _ (List.mem_of_getElem? (i := 1) rfl))) (g := (mkF mM 9 #[.val (.long q1), .second, .val (.int p2), .val (.int p3), .val (.long q4), .second, .val (.long q5), .second, .val (.int dv), .unset, .unset, .unset, .unset] [(.int p3)])) rfl (Jvm.hb hby at_9) _ ?_
    show Steps pP.tables eE below (s₁.setTop (mkF mM 11 #[.val (.long q1), .second, .val (.int p2), .val (.int p3), .val (.long q4), .second, .val (.long q5), .second, .val (.int dv), .unset, .unset, .unset, .unset] [(.int (2147483647 : Int32)), (.int p3)])) tT
    refine XS.iand X0.here hx rfl (Jvm.hb hby at_11) rfl ?_
    show Steps pP.tables eE below (s₁.setTop (mkF mM 12 #[.val (.long q1), .second, .val (.int p2), .val (.int p3), .val (.long q4), .second, .val (.long q5), .second, .val (.int dv), .unset, .unset, .unset, .unset] [(.int (p3 &&& (2147483647 : Int32)))])) tT
    refine XS.iload X0.here hx rfl (Jvm.hb hby at_12) rfl ?_
    show Steps pP.tables eE below (s₁.setTop (mkF mM 14 #[.val (.long q1), .second, .val (.int p2), .val (.int p3), .val (.long q4), .second, .val (.long q5), .second, .val (.int dv), .unset, .unset, .unset, .unset] [(.int dv), (.int (p3 &&& (2147483647 : Int32)))])) tT
    refine XS.iconst X0.here hx rfl (Jvm.hb hby at_14) ?_
    show Steps pP.tables eE below (s₁.setTop (mkF mM 15 #[.val (.long q1), .second, .val (.int p2), .val (.int p3), .val (.long q4), .second, .val (.long q5), .second, .val (.int dv), .unset, .unset, .unset, .unset] [(.int (1 : Int32)), (.int dv), (.int (p3 &&& (2147483647 : Int32)))])) tT
    refine XS.iadd X0.here hx rfl (Jvm.hb hby at_15) rfl ?_
    show Steps pP.tables eE below (s₁.setTop (mkF mM 16 #[.val (.long q1), .second, .val (.int p2), .val (.int p3), .val (.long q4), .second, .val (.long q5), .second, .val (.int dv), .unset, .unset, .unset, .unset] [(.int (dv + (1 : Int32))), (.int (p3 &&& (2147483647 : Int32)))])) tT
    refine iremM X0 hx rfl (Jvm.hb hby at_16) rfl (own_nz hd) ?_
    show Steps pP.tables eE below (s₁.setTop (mkF mM 17 #[.val (.long q1), .second, .val (.int p2), .val (.int p3), .val (.long q4), .second, .val (.long q5), .second, .val (.int dv), .unset, .unset, .unset, .unset] [(.int ((p3 &&& (2147483647 : Int32)) % (dv + (1 : Int32))))])) tT
    refine XS.istore X0.here hx rfl (Jvm.hb hby at_17) rfl (l' := #[.val (.long q1), .second, .val (.int p2), .val (.int p3), .val (.long q4), .second, .val (.long q5), .second, .val (.int dv), .val (.int ((p3 &&& (2147483647 : Int32)) % (dv + (1 : Int32)))), .unset, .unset, .unset]) rfl ?_
    show Steps pP.tables eE below (s₁.setTop (mkF mM 19 #[.val (.long q1), .second, .val (.int p2), .val (.int p3), .val (.long q4), .second, .val (.long q5), .second, .val (.int dv), .val (.int ((p3 &&& (2147483647 : Int32)) % (dv + (1 : Int32)))), .unset, .unset, .unset] [])) tT
    exact kK
  show own_Fin pP eE below _ (s₁.setTop (mkF mM 19 #[.val (.long q1), .second, .val (.int p2), .val (.int p3), .val (.long q4), .second, .val (.long q5), .second, .val (.int dv), .val (.int ((p3 &&& (2147483647 : Int32)) % (dv + (1 : Int32)))), .unset, .unset, .unset] []))
  generalize hfv : ((p3 &&& (2147483647 : Int32)) % (dv + (1 : Int32))) = fv
  show own_Fin pP eE below _ (s₁.setTop (mkF mM 19 #[.val (.long q1), .second, .val (.int p2), .val (.int p3), .val (.long q4), .second, .val (.long q5), .second, .val (.int dv), .val (.int fv), .unset, .unset, .unset] []))
  have hf := own_fv hd hfv
  obtain ⟨T1_, h1_, X1_, e1_, E1_, A1_, D1_, -, st1_⟩ := newO X0 hx hZ hown (hw _ (List.mem_of_getElem? (i := 2) rfl)) (hw _ (List.mem_of_getElem? (i := 3) rfl)) (hw _ (List.mem_of_getElem? (i := 4) rfl)) e0 (g := (mkF mM 19 #[.val (.long q1), .second, .val (.int p2), .val (.int p3), .val (.long q4), .second, .val (.long q5), .second, .val (.int dv), .val (.int fv), .unset, .unset, .unset] [])) rfl (Jvm.hb hby at_19) (by decide) (by decide)
  obtain ⟨b1_, g1_⟩ : ∃ z, z = h0.size := ⟨_, rfl⟩
  rw [← g1_] at A1_ D1_ st1_
  have sz_b1_ : h0.size ≤ b1_ := Nat.le_trans K0.1 (Nat.le_of_eq g1_.symm)
  have ge_b1_ : n0 ≤ b1_ := Nat.le_trans Z0 sz_b1_
  have K1_ := K0.ext E1_
  have F1__offset : Fld Z h1_ b1_ "com/example/portion/portion/server/Redelivery" "offset" "J" (.long (0 : Int64)) := D1_ (Or.inr (hw _ (List.mem_of_getElem? (i := 18) rfl))) (ty := .long) (by decide)
  have F1__deliveries : Fld Z h1_ b1_ "com/example/portion/portion/server/Redelivery" "deliveries" "I" (.int (0 : Int32)) := D1_ (Or.inr (hw _ (List.mem_of_getElem? (i := 20) rfl))) (ty := .int) (by decide)
  have F1__failures : Fld Z h1_ b1_ "com/example/portion/portion/server/Redelivery" "failures" "I" (.int (0 : Int32)) := D1_ (Or.inr (hw _ (List.mem_of_getElem? (i := 22) rfl))) (ty := .int) (by decide)
  have F1__retryAt : Fld Z h1_ b1_ "com/example/portion/portion/server/Redelivery" "retryAt" "J" (.long (0 : Int64)) := D1_ (Or.inr (hw _ (List.mem_of_getElem? (i := 24) rfl))) (ty := .long) (by decide)
  refine own_fin st1_ ?_
  show own_Fin pP eE below _ (T1_.setTop (mkF mM 22 #[.val (.long q1), .second, .val (.int p2), .val (.int p3), .val (.long q4), .second, .val (.long q5), .second, .val (.int dv), .val (.int fv), .unset, .unset, .unset] [(.ref b1_)]))
  refine own_fin (b := T1_.setTop (mkF mM 38 #[.val (.long q1), .second, .val (.int p2), .val (.int p3), .val (.long q4), .second, .val (.long q5), .second, .val (.int dv), .val (.int fv), .unset, .unset, .unset] [(.long (q4 &&& (9223372036854775807 : Int64))), (.int fv), (.int dv), (.long (q1 &&& (9223372036854775807 : Int64))), (.ref b1_), (.ref b1_)])) (fun tT kK => ?_) ?_
  · show Steps pP.tables eE below (T1_.setTop (mkF mM 22 #[.val (.long q1), .second, .val (.int p2), .val (.int p3), .val (.long q4), .second, .val (.long q5), .second, .val (.int dv), .val (.int fv), .unset, .unset, .unset] [(.ref b1_)])) tT
    refine XS.dup X1_.here hx rfl (Jvm.hb hby at_22) rfl rfl ?_
    show Steps pP.tables eE below (T1_.setTop (mkF mM 23 #[.val (.long q1), .second, .val (.int p2), .val (.int p3), .val (.long q4), .second, .val (.long q5), .second, .val (.int dv), .val (.int fv), .unset, .unset, .unset] [(.ref b1_), (.ref b1_)])) tT
    refine XS.lloadN X1_.here hx rfl (Jvm.hb hby at_23) rfl ?_
    show Steps pP.tables eE below (T1_.setTop (mkF mM 24 #[.val (.long q1), .second, .val (.int p2), .val (.int p3), .val (.long q4), .second, .val (.long q5), .second, .val (.int dv), .val (.int fv), .unset, .unset, .unset] [(.long q1), (.ref b1_), (.ref b1_)])) tT
    refine X1_.ldc2Long hx hown (mvT hZ (hw _ (List.mem_of_getElem? (i := 5) rfl))) (g := (mkF mM 24 #[.val (.long q1), .second, .val (.int p2), .val (.int p3), .val (.long q4), .second, .val (.long q5), .second, .val (.int dv), .val (.int fv), .unset, .unset, .unset] [(.long q1), (.ref b1_), (.ref b1_)])) rfl (Jvm.hb hby at_24) _ ?_
    show Steps pP.tables eE below (T1_.setTop (mkF mM 27 #[.val (.long q1), .second, .val (.int p2), .val (.int p3), .val (.long q4), .second, .val (.long q5), .second, .val (.int dv), .val (.int fv), .unset, .unset, .unset] [(.long (9223372036854775807 : Int64)), (.long q1), (.ref b1_), (.ref b1_)])) tT
    refine XS.land X1_.here hx rfl (Jvm.hb hby at_27) rfl ?_
    show Steps pP.tables eE below (T1_.setTop (mkF mM 28 #[.val (.long q1), .second, .val (.int p2), .val (.int p3), .val (.long q4), .second, .val (.long q5), .second, .val (.int dv), .val (.int fv), .unset, .unset, .unset] [(.long (q1 &&& (9223372036854775807 : Int64))), (.ref b1_), (.ref b1_)])) tT
    refine XS.iload X1_.here hx rfl (Jvm.hb hby at_28) rfl ?_
    show Steps pP.tables eE below (T1_.setTop (mkF mM 30 #[.val (.long q1), .second, .val (.int p2), .val (.int p3), .val (.long q4), .second, .val (.long q5), .second, .val (.int dv), .val (.int fv), .unset, .unset, .unset] [(.int dv), (.long (q1 &&& (9223372036854775807 : Int64))), (.ref b1_), (.ref b1_)])) tT
    refine XS.iload X1_.here hx rfl (Jvm.hb hby at_30) rfl ?_
    show Steps pP.tables eE below (T1_.setTop (mkF mM 32 #[.val (.long q1), .second, .val (.int p2), .val (.int p3), .val (.long q4), .second, .val (.long q5), .second, .val (.int dv), .val (.int fv), .unset, .unset, .unset] [(.int fv), (.int dv), (.long (q1 &&& (9223372036854775807 : Int64))), (.ref b1_), (.ref b1_)])) tT
    refine XS.lload X1_.here hx rfl (Jvm.hb hby at_32) rfl ?_
    show Steps pP.tables eE below (T1_.setTop (mkF mM 34 #[.val (.long q1), .second, .val (.int p2), .val (.int p3), .val (.long q4), .second, .val (.long q5), .second, .val (.int dv), .val (.int fv), .unset, .unset, .unset] [(.long q4), (.int fv), (.int dv), (.long (q1 &&& (9223372036854775807 : Int64))), (.ref b1_), (.ref b1_)])) tT
    refine X1_.ldc2Long hx hown (mvT hZ (hw _ (List.mem_of_getElem? (i := 5) rfl))) (g := (mkF mM 34 #[.val (.long q1), .second, .val (.int p2), .val (.int p3), .val (.long q4), .second, .val (.long q5), .second, .val (.int dv), .val (.int fv), .unset, .unset, .unset] [(.long q4), (.int fv), (.int dv), (.long (q1 &&& (9223372036854775807 : Int64))), (.ref b1_), (.ref b1_)])) rfl (Jvm.hb hby at_34) _ ?_
    show Steps pP.tables eE below (T1_.setTop (mkF mM 37 #[.val (.long q1), .second, .val (.int p2), .val (.int p3), .val (.long q4), .second, .val (.long q5), .second, .val (.int dv), .val (.int fv), .unset, .unset, .unset] [(.long (9223372036854775807 : Int64)), (.long q4), (.int fv), (.int dv), (.long (q1 &&& (9223372036854775807 : Int64))), (.ref b1_), (.ref b1_)])) tT
    refine XS.land X1_.here hx rfl (Jvm.hb hby at_37) rfl ?_
    show Steps pP.tables eE below (T1_.setTop (mkF mM 38 #[.val (.long q1), .second, .val (.int p2), .val (.int p3), .val (.long q4), .second, .val (.long q5), .second, .val (.int dv), .val (.int fv), .unset, .unset, .unset] [(.long (q4 &&& (9223372036854775807 : Int64))), (.int fv), (.int dv), (.long (q1 &&& (9223372036854775807 : Int64))), (.ref b1_), (.ref b1_)])) tT
    exact kK
  obtain ⟨_, _, ⟨T2_, L2_, k2_, n2_⟩, -, X2_, ⟨Lc2_, hQ2_, l2_, y2_, z2_⟩, st2_⟩ := X1_.specialBack hx (y := (⟨"com/example/portion/portion/server/Redelivery", "<init>", "(JIIJ)V"⟩ : MethodName)) rfl hown (mvT hZ (hw _ (List.mem_of_getElem? (i := 6) rfl))) (mvT hZ (hw _ (List.mem_of_getElem? (i := 7) rfl))) (mvT hZ (hw _ (List.mem_of_getElem? (i := 8) rfl))) (by decide) (backOf (W := 1) (rm_rd lL Z a0 hw [] b1_ (q1 &&& (9223372036854775807 : Int64)) dv fv (q4 &&& (9223372036854775807 : Int64)) h1_ n0 (Nat.le_trans Z0 K1_.1) A1_ F1__offset F1__deliveries F1__failures F1__retryAt ge_b1_ (own_h _) (own_c1 hd) (own_c2 hf) (own_c3 hf) (own_h _)) hZ (hw _ (List.mem_of_getElem? (i := 8) rfl)) (hw _ (List.mem_of_getElem? (i := 4) rfl)) (by decide) (by decide)) (g := (mkF mM 38 #[.val (.long q1), .second, .val (.int p2), .val (.int p3), .val (.long q4), .second, .val (.long q5), .second, .val (.int dv), .val (.int fv), .unset, .unset, .unset] [(.long (q4 &&& (9223372036854775807 : Int64))), (.int fv), (.int dv), (.long (q1 &&& (9223372036854775807 : Int64))), (.ref b1_), (.ref b1_)])) rfl (by rw [hml]; rfl) (Steps.refl _) (a := b1_) (argsL := [(.long (q1 &&& (9223372036854775807 : Int64))), (.int dv), (.int fv), (.long (q4 &&& (9223372036854775807 : Int64)))]) (rest := [(.ref b1_)]) (lenOf own_pd1 rfl) rfl (by show 2 * 0 + _ ≤ _; exact Nat.le_of_eq rfl) (Jvm.hb hby at_38) (fun _ _ => ⟨rfl, e1_, (by decide : 1 + 0 ≤ _), (by decide : 4 + 0 ≤ _)⟩)
  dsimp only [Pt.U, Pt.locs, Pt.cells, Pt.slots] at X2_ l2_ y2_ z2_ st2_ hQ2_
  subst l2_ y2_ z2_
  obtain ⟨rfl, N2_q, p2__0, p2__1⟩ := hQ2_
  have N2_ := Fr.app N0 N2_q
  have fc3_ := A1_.keep p2__0
  have K2_ := K1_.trans p2__0 (allS (Or.inr sz_b1_) all0)
  refine own_fin (fun tT kK => st2_.trans kK) ?_
  show own_Fin pP eE below _ (T2_.setTop (mkF mM 41 #[.val (.long q1), .second, .val (.int p2), .val (.int p3), .val (.long q4), .second, .val (.long q5), .second, .val (.int dv), .val (.int fv), .unset, .unset, .unset] [(.ref b1_)]))
  refine own_fin (b := T2_.setTop (mkF mM 43 #[.val (.long q1), .second, .val (.int p2), .val (.int p3), .val (.long q4), .second, .val (.long q5), .second, .val (.int dv), .val (.int fv), .val (.ref b1_), .unset, .unset] [])) (fun tT kK => ?_) ?_
  · show Steps pP.tables eE below (T2_.setTop (mkF mM 41 #[.val (.long q1), .second, .val (.int p2), .val (.int p3), .val (.long q4), .second, .val (.long q5), .second, .val (.int dv), .val (.int fv), .unset, .unset, .unset] [(.ref b1_)])) tT
    refine XS.astore X2_.here hx rfl (Jvm.hb hby at_41) rfl rfl (l' := #[.val (.long q1), .second, .val (.int p2), .val (.int p3), .val (.long q4), .second, .val (.long q5), .second, .val (.int dv), .val (.int fv), .val (.ref b1_), .unset, .unset]) rfl ?_
    show Steps pP.tables eE below (T2_.setTop (mkF mM 43 #[.val (.long q1), .second, .val (.int p2), .val (.int p3), .val (.long q4), .second, .val (.long q5), .second, .val (.int dv), .val (.int fv), .val (.ref b1_), .unset, .unset] [])) tT
    exact kK
  obtain ⟨T4_, h4_, X4_, e4_, E4_, A4_, D4_, -, st4_⟩ := newO X2_ hx hZ hown (hw _ (List.mem_of_getElem? (i := 25) rfl)) (hw _ (List.mem_of_getElem? (i := 26) rfl)) (hw _ (List.mem_of_getElem? (i := 27) rfl)) rfl (g := (mkF mM 43 #[.val (.long q1), .second, .val (.int p2), .val (.int p3), .val (.long q4), .second, .val (.long q5), .second, .val (.int dv), .val (.int fv), .val (.ref b1_), .unset, .unset] [])) rfl (Jvm.hb hby at_43) (by decide) (by decide)
  obtain ⟨b4_, g4_⟩ : ∃ z, z = T2_.heap.size := ⟨_, rfl⟩
  rw [← g4_] at A4_ D4_ st4_
  have sz_b4_ : h0.size ≤ b4_ := Nat.le_trans K2_.1 (Nat.le_of_eq g4_.symm)
  have ge_b4_ : n0 ≤ b4_ := Nat.le_trans Z0 sz_b4_
  have ne5_ : b1_ ≠ b4_ := Nat.ne_of_lt (Nat.lt_of_lt_of_le p2__1.lt (Nat.le_of_eq g4_.symm))
  have fc6_ := p2__1.ext E4_
  have K4_ := K2_.ext E4_
  have F4__redelivery : Fld Z h4_ b4_ "com/example/portion/portion/server/Retry" "redelivery" "Lcom/example/portion/portion/server/Redelivery;" .null := D4_ (Or.inr (hw _ (List.mem_of_getElem? (i := 33) rfl))) (ty := (.object "com/example/portion/portion/server/Redelivery")) (by decide)
  have F4__position : Fld Z h4_ b4_ "com/example/portion/portion/server/Retry" "position" "J" (.long (0 : Int64)) := D4_ (Or.inr (hw _ (List.mem_of_getElem? (i := 35) rfl))) (ty := .long) (by decide)
  refine own_fin st4_ ?_
  show own_Fin pP eE below _ (T4_.setTop (mkF mM 46 #[.val (.long q1), .second, .val (.int p2), .val (.int p3), .val (.long q4), .second, .val (.long q5), .second, .val (.int dv), .val (.int fv), .val (.ref b1_), .unset, .unset] [(.ref b4_)]))
  refine own_fin (b := T4_.setTop (mkF mM 51 #[.val (.long q1), .second, .val (.int p2), .val (.int p3), .val (.long q4), .second, .val (.long q5), .second, .val (.int dv), .val (.int fv), .val (.ref b1_), .unset, .unset] [(.long q5), (.ref b1_), (.ref b4_), (.ref b4_)])) (fun tT kK => ?_) ?_
  · show Steps pP.tables eE below (T4_.setTop (mkF mM 46 #[.val (.long q1), .second, .val (.int p2), .val (.int p3), .val (.long q4), .second, .val (.long q5), .second, .val (.int dv), .val (.int fv), .val (.ref b1_), .unset, .unset] [(.ref b4_)])) tT
    refine XS.dup X4_.here hx rfl (Jvm.hb hby at_46) rfl rfl ?_
    show Steps pP.tables eE below (T4_.setTop (mkF mM 47 #[.val (.long q1), .second, .val (.int p2), .val (.int p3), .val (.long q4), .second, .val (.long q5), .second, .val (.int dv), .val (.int fv), .val (.ref b1_), .unset, .unset] [(.ref b4_), (.ref b4_)])) tT
    refine XS.aload X4_.here hx rfl (Jvm.hb hby at_47) rfl rfl ?_
    show Steps pP.tables eE below (T4_.setTop (mkF mM 49 #[.val (.long q1), .second, .val (.int p2), .val (.int p3), .val (.long q4), .second, .val (.long q5), .second, .val (.int dv), .val (.int fv), .val (.ref b1_), .unset, .unset] [(.ref b1_), (.ref b4_), (.ref b4_)])) tT
    refine XS.lload X4_.here hx rfl (Jvm.hb hby at_49) rfl ?_
    show Steps pP.tables eE below (T4_.setTop (mkF mM 51 #[.val (.long q1), .second, .val (.int p2), .val (.int p3), .val (.long q4), .second, .val (.long q5), .second, .val (.int dv), .val (.int fv), .val (.ref b1_), .unset, .unset] [(.long q5), (.ref b1_), (.ref b4_), (.ref b4_)])) tT
    exact kK
  obtain ⟨_, _, ⟨T7_, L7_, k7_, n7_⟩, -, X7_, ⟨Lc7_, hQ7_, l7_, y7_, z7_⟩, st7_⟩ := X4_.specialBack hx (y := (⟨"com/example/portion/portion/server/Retry", "<init>", "(Lcom/example/portion/portion/server/Redelivery;J)V"⟩ : MethodName)) rfl hown (mvT hZ (hw _ (List.mem_of_getElem? (i := 28) rfl))) (mvT hZ (hw _ (List.mem_of_getElem? (i := 29) rfl))) (mvT hZ (hw _ (List.mem_of_getElem? (i := 30) rfl))) (by decide) (backOf (W := 1) (rm_rt lL Z a0 hw [] b4_ b1_ q5 h4_ n0 (Nat.le_trans Z0 K4_.1) A4_ F4__redelivery F4__position ge_b4_) hZ (hw _ (List.mem_of_getElem? (i := 30) rfl)) (hw _ (List.mem_of_getElem? (i := 27) rfl)) (by decide) (by decide)) (g := (mkF mM 51 #[.val (.long q1), .second, .val (.int p2), .val (.int p3), .val (.long q4), .second, .val (.long q5), .second, .val (.int dv), .val (.int fv), .val (.ref b1_), .unset, .unset] [(.long q5), (.ref b1_), (.ref b4_), (.ref b4_)])) rfl (by rw [hml]; rfl) (Steps.refl _) (a := b4_) (argsL := [(.ref b1_), (.long q5)]) (rest := [(.ref b4_)]) (lenOf own_pd2 rfl) rfl (by show 2 * 0 + _ ≤ _; exact Nat.le_of_eq rfl) (Jvm.hb hby at_51) (fun _ _ => ⟨rfl, e4_, (by decide : 2 + 0 ≤ _), (by decide : 6 + 0 ≤ _)⟩)
  dsimp only [Pt.U, Pt.locs, Pt.cells, Pt.slots] at X7_ l7_ y7_ z7_ st7_ hQ7_
  subst l7_ y7_ z7_
  obtain ⟨rfl, N7_q, p7__0, p7__1, p7__2⟩ := hQ7_
  have N7_ := Fr.app N2_ N7_q
  have fc8_ := fc6_.keep p7__0
  have fc9_ := A4_.keep p7__0
  have K7_ := K4_.trans p7__0 (allS (Or.inr sz_b4_) all0)
  refine own_fin (fun tT kK => st7_.trans kK) ?_
  show own_Fin pP eE below _ (T7_.setTop (mkF mM 54 #[.val (.long q1), .second, .val (.int p2), .val (.int p3), .val (.long q4), .second, .val (.long q5), .second, .val (.int dv), .val (.int fv), .val (.ref b1_), .unset, .unset] [(.ref b4_)]))
  refine own_fin (b := T7_.setTop (mkF mM 62 #[.val (.long q1), .second, .val (.int p2), .val (.int p3), .val (.long q4), .second, .val (.long q5), .second, .val (.int dv), .val (.int fv), .val (.ref b1_), .val (.ref b4_), .unset] [(.int (lcmpW q5 (-1 : Int64)))])) (fun tT kK => ?_) ?_
  · show Steps pP.tables eE below (T7_.setTop (mkF mM 54 #[.val (.long q1), .second, .val (.int p2), .val (.int p3), .val (.long q4), .second, .val (.long q5), .second, .val (.int dv), .val (.int fv), .val (.ref b1_), .unset, .unset] [(.ref b4_)])) tT
    refine XS.astore X7_.here hx rfl (Jvm.hb hby at_54) rfl rfl (l' := #[.val (.long q1), .second, .val (.int p2), .val (.int p3), .val (.long q4), .second, .val (.long q5), .second, .val (.int dv), .val (.int fv), .val (.ref b1_), .val (.ref b4_), .unset]) rfl ?_
    show Steps pP.tables eE below (T7_.setTop (mkF mM 56 #[.val (.long q1), .second, .val (.int p2), .val (.int p3), .val (.long q4), .second, .val (.long q5), .second, .val (.int dv), .val (.int fv), .val (.ref b1_), .val (.ref b4_), .unset] [])) tT
    refine XS.lload X7_.here hx rfl (Jvm.hb hby at_56) rfl ?_
    show Steps pP.tables eE below (T7_.setTop (mkF mM 58 #[.val (.long q1), .second, .val (.int p2), .val (.int p3), .val (.long q4), .second, .val (.long q5), .second, .val (.int dv), .val (.int fv), .val (.ref b1_), .val (.ref b4_), .unset] [(.long q5)])) tT
    refine X7_.ldc2Long hx hown (mvT hZ (hw _ (List.mem_of_getElem? (i := 36) rfl))) (g := (mkF mM 58 #[.val (.long q1), .second, .val (.int p2), .val (.int p3), .val (.long q4), .second, .val (.long q5), .second, .val (.int dv), .val (.int fv), .val (.ref b1_), .val (.ref b4_), .unset] [(.long q5)])) rfl (Jvm.hb hby at_58) _ ?_
    show Steps pP.tables eE below (T7_.setTop (mkF mM 61 #[.val (.long q1), .second, .val (.int p2), .val (.int p3), .val (.long q4), .second, .val (.long q5), .second, .val (.int dv), .val (.int fv), .val (.ref b1_), .val (.ref b4_), .unset] [(.long (-1 : Int64)), (.long q5)])) tT
    refine XS.lcmp X7_.here hx rfl (Jvm.hb hby at_61) rfl ?_
    show Steps pP.tables eE below (T7_.setTop (mkF mM 62 #[.val (.long q1), .second, .val (.int p2), .val (.int p3), .val (.long q4), .second, .val (.long q5), .second, .val (.int dv), .val (.int fv), .val (.ref b1_), .val (.ref b4_), .unset] [(.int (lcmpW q5 (-1 : Int64)))])) tT
    exact kK
  by_cases hc62_10_ : q5 = (-1 : Int64)
  · refine own_fin (b := T7_.setTop (mkF mM 89 #[.val (.long q1), .second, .val (.int p2), .val (.int p3), .val (.long q4), .second, .val (.long q5), .second, .val (.int dv), .val (.int fv), .val (.ref b1_), .val (.ref b4_), .val (.int (0 : Int32))] [(.ref b4_)])) (fun tT kK => ?_) ?_
    · show Steps pP.tables eE below (T7_.setTop (mkF mM 62 #[.val (.long q1), .second, .val (.int p2), .val (.int p3), .val (.long q4), .second, .val (.long q5), .second, .val (.int dv), .val (.int fv), .val (.ref b1_), .val (.ref b4_), .unset] [(.int (lcmpW q5 (-1 : Int64)))])) tT
      refine XS.ifNo X7_.here hx rfl (Jvm.hb hby at_62) rfl ((if0 _ _).trans (teq ((lw_eq q5 (-1 : Int64)).mpr (hc62_10_ : q5 = (-1 : Int64)))).2) ?_
      show Steps pP.tables eE below (T7_.setTop (mkF mM 65 #[.val (.long q1), .second, .val (.int p2), .val (.int p3), .val (.long q4), .second, .val (.long q5), .second, .val (.int dv), .val (.int fv), .val (.ref b1_), .val (.ref b4_), .unset] [])) tT
      refine XS.iconst X7_.here hx rfl (Jvm.hb hby at_65) ?_
      show Steps pP.tables eE below (T7_.setTop (mkF mM 66 #[.val (.long q1), .second, .val (.int p2), .val (.int p3), .val (.long q4), .second, .val (.long q5), .second, .val (.int dv), .val (.int fv), .val (.ref b1_), .val (.ref b4_), .unset] [(.int (0 : Int32))])) tT
      refine XS.istore X7_.here hx rfl (Jvm.hb hby at_66) rfl (l' := #[.val (.long q1), .second, .val (.int p2), .val (.int p3), .val (.long q4), .second, .val (.long q5), .second, .val (.int dv), .val (.int fv), .val (.ref b1_), .val (.ref b4_), .val (.int (0 : Int32))]) rfl ?_
      show Steps pP.tables eE below (T7_.setTop (mkF mM 68 #[.val (.long q1), .second, .val (.int p2), .val (.int p3), .val (.long q4), .second, .val (.long q5), .second, .val (.int dv), .val (.int fv), .val (.ref b1_), .val (.ref b4_), .val (.int (0 : Int32))] [])) tT
      refine XS.goto X7_.here hx rfl (pc0 := 68) (pc' := 87) rfl (Jvm.hb hby at_68) (by decide) (by decide) ?_
      show Steps pP.tables eE below (T7_.setTop (mkF mM 87 #[.val (.long q1), .second, .val (.int p2), .val (.int p3), .val (.long q4), .second, .val (.long q5), .second, .val (.int dv), .val (.int fv), .val (.ref b1_), .val (.ref b4_), .val (.int (0 : Int32))] [])) tT
      refine XS.aload X7_.here hx rfl (Jvm.hb hby at_87) rfl rfl ?_
      show Steps pP.tables eE below (T7_.setTop (mkF mM 89 #[.val (.long q1), .second, .val (.int p2), .val (.int p3), .val (.long q4), .second, .val (.long q5), .second, .val (.int dv), .val (.int fv), .val (.ref b1_), .val (.ref b4_), .val (.int (0 : Int32))] [(.ref b4_)])) tT
      exact kK
    obtain ⟨cq11_, kq11_, q11_a, q11_b, q11_c⟩ := isOf hZ rfl p7__1
    obtain ⟨_, _, ⟨T11_, L11_, k11_, n11_⟩, -, X11_, ⟨Lc11_, hQ11_, l11_, y11_, z11_⟩, st11_⟩ := X7_.virtualBack hx (y := (⟨"com/example/portion/portion/server/Retry", "isLogged", "()Z"⟩ : MethodName)) (z := (⟨"com/example/portion/portion/server/Retry", "isLogged", "()Z"⟩ : MethodName)) hown (mvT hZ (hw _ (List.mem_of_getElem? (i := 37) rfl))) (mvT hZ (hw _ (List.mem_of_getElem? (i := 38) rfl))) (notFace_of_selects (args := #[]) (mvT hZ (hw _ (List.mem_of_getElem? (i := 40) rfl)))) (mvT hZ (hw _ (List.mem_of_getElem? (i := 40) rfl))) (mvT hZ (hw _ (List.mem_of_getElem? (i := 39) rfl))) (by decide) (backOf (W := 0) (rm_is lL Z a0 hw [] b4_ q5 T7_.heap n0 (Nat.le_trans Z0 K7_.1) p7__2) hZ (hw _ (List.mem_of_getElem? (i := 41) rfl)) (hw _ (List.mem_of_getElem? (i := 27) rfl)) (by decide) (by decide)) q11_a q11_c (g := (mkF mM 89 #[.val (.long q1), .second, .val (.int p2), .val (.int p3), .val (.long q4), .second, .val (.long q5), .second, .val (.int dv), .val (.int fv), .val (.ref b1_), .val (.ref b4_), .val (.int (0 : Int32))] [(.ref b4_)])) rfl (by rw [hml]; rfl) (Steps.refl _) (argsL := []) (rest := []) (lenOf own_pd3 rfl) rfl (by show 2 * 0 + _ ≤ _; exact Nat.le_of_eq rfl) (Jvm.hb hby at_89) (fun _ _ => ⟨rfl, rfl, (by decide : 2 + 0 ≤ _), (by decide : 6 + 0 ≤ _)⟩)
    dsimp only [Pt.U, Pt.locs, Pt.cells, Pt.slots] at X11_ l11_ y11_ z11_ st11_ hQ11_
    subst l11_ y11_ z11_
    obtain ⟨rfl, N11_q, p11__0⟩ := hQ11_
    have N11_ := Fr.app N7_ N11_q
    refine own_fin (fun tT kK => st11_.trans kK) ?_
    show own_Fin pP eE below _ (T11_.setTop (mkF mM 92 #[.val (.long q1), .second, .val (.int p2), .val (.int p3), .val (.long q4), .second, .val (.long q5), .second, .val (.int dv), .val (.int fv), .val (.ref b1_), .val (.ref b4_), .val (.int (0 : Int32))] [(.int (if q5 < (0 : Int64) then (0 : Int32) else (1 : Int32)))]))
    refine own_fin (b := T11_.setTop (mkF mM 102 #[.val (.long q1), .second, .val (.int p2), .val (.int p3), .val (.long q4), .second, .val (.long q5), .second, .val (.int dv), .val (.int fv), .val (.ref b1_), .val (.ref b4_), .val (.int (0 : Int32))] [(.int (1 : Int32))])) (fun tT kK => ?_) ?_
    · show Steps pP.tables eE below (T11_.setTop (mkF mM 92 #[.val (.long q1), .second, .val (.int p2), .val (.int p3), .val (.long q4), .second, .val (.long q5), .second, .val (.int dv), .val (.int fv), .val (.ref b1_), .val (.ref b4_), .val (.int (0 : Int32))] [(.int (if q5 < (0 : Int64) then (0 : Int32) else (1 : Int32)))])) tT
      refine XS.iload X11_.here hx rfl (Jvm.hb hby at_92) rfl ?_
      show Steps pP.tables eE below (T11_.setTop (mkF mM 94 #[.val (.long q1), .second, .val (.int p2), .val (.int p3), .val (.long q4), .second, .val (.long q5), .second, .val (.int dv), .val (.int fv), .val (.ref b1_), .val (.ref b4_), .val (.int (0 : Int32))] [(.int (0 : Int32)), (.int (if q5 < (0 : Int64) then (0 : Int32) else (1 : Int32)))])) tT
      refine XS.icmpNo X11_.here hx rfl (Jvm.hb hby at_94) rfl (teq ((by rw [hc62_10_]; decide) : (if q5 < (0 : Int64) then (0 : Int32) else (1 : Int32)) = (0 : Int32))).2 ?_
      show Steps pP.tables eE below (T11_.setTop (mkF mM 97 #[.val (.long q1), .second, .val (.int p2), .val (.int p3), .val (.long q4), .second, .val (.long q5), .second, .val (.int dv), .val (.int fv), .val (.ref b1_), .val (.ref b4_), .val (.int (0 : Int32))] [])) tT
      refine XS.iconst X11_.here hx rfl (Jvm.hb hby at_97) ?_
      show Steps pP.tables eE below (T11_.setTop (mkF mM 98 #[.val (.long q1), .second, .val (.int p2), .val (.int p3), .val (.long q4), .second, .val (.long q5), .second, .val (.int dv), .val (.int fv), .val (.ref b1_), .val (.ref b4_), .val (.int (0 : Int32))] [(.int (1 : Int32))])) tT
      refine XS.goto X11_.here hx rfl (pc0 := 98) (pc' := 102) rfl (Jvm.hb hby at_98) (by decide) (by decide) ?_
      show Steps pP.tables eE below (T11_.setTop (mkF mM 102 #[.val (.long q1), .second, .val (.int p2), .val (.int p3), .val (.long q4), .second, .val (.long q5), .second, .val (.int dv), .val (.int fv), .val (.ref b1_), .val (.ref b4_), .val (.int (0 : Int32))] [(.int (1 : Int32))])) tT
      exact kK
    obtain ⟨fs, hr, hrun, hended, hW, hsame⟩ := X11_.leave (v := some (.int (1 : Int32))) (fun h => by rw [Bd.returns] at h; cases h)
    refine ⟨_, _, ?_, hrun, hended, _, _, rfl, ?_, ⟨_, rfl⟩, hW, hsame.mono (by decide) (by decide)⟩
    · show Steps pP.tables eE below (T11_.setTop (mkF mM 102 #[.val (.long q1), .second, .val (.int p2), .val (.int p3), .val (.long q4), .second, .val (.long q5), .second, .val (.int dv), .val (.int fv), .val (.ref b1_), .val (.ref b4_), .val (.int (0 : Int32))] [(.int (1 : Int32))])) _
      exact retN X11_ hx (t := .boolean) Bd.returns (by simp) (Jvm.hb hby at_102) hr
    · show Q_rm0 Z q1 p2 p3 q4 q5 h0 n0 _ T11_.heap _
      rw [p11__0]
      exact ⟨rfl, N11_⟩
  · refine own_fin (b := T7_.setTop (mkF mM 75 #[.val (.long q1), .second, .val (.int p2), .val (.int p3), .val (.long q4), .second, .val (.long q5), .second, .val (.int dv), .val (.int fv), .val (.ref b1_), .val (.ref b4_), .unset] [(.int (lcmpW q5 (0 : Int64)))])) (fun tT kK => ?_) ?_
    · show Steps pP.tables eE below (T7_.setTop (mkF mM 62 #[.val (.long q1), .second, .val (.int p2), .val (.int p3), .val (.long q4), .second, .val (.long q5), .second, .val (.int dv), .val (.int fv), .val (.ref b1_), .val (.ref b4_), .unset] [(.int (lcmpW q5 (-1 : Int64)))])) tT
      refine XS.ifYes X7_.here hx rfl (pc0 := 62) (pc' := 71) rfl (Jvm.hb hby at_62) rfl ((if0 _ _).trans (feq (mt (lw_eq q5 (-1 : Int64)).mp (hc62_10_ : ¬ (q5 = (-1 : Int64))))).2) (by decide) (by decide) ?_
      show Steps pP.tables eE below (T7_.setTop (mkF mM 71 #[.val (.long q1), .second, .val (.int p2), .val (.int p3), .val (.long q4), .second, .val (.long q5), .second, .val (.int dv), .val (.int fv), .val (.ref b1_), .val (.ref b4_), .unset] [])) tT
      refine XS.lload X7_.here hx rfl (Jvm.hb hby at_71) rfl ?_
      show Steps pP.tables eE below (T7_.setTop (mkF mM 73 #[.val (.long q1), .second, .val (.int p2), .val (.int p3), .val (.long q4), .second, .val (.long q5), .second, .val (.int dv), .val (.int fv), .val (.ref b1_), .val (.ref b4_), .unset] [(.long q5)])) tT
      refine XS.lconst X7_.here hx rfl (Jvm.hb hby at_73) ?_
      show Steps pP.tables eE below (T7_.setTop (mkF mM 74 #[.val (.long q1), .second, .val (.int p2), .val (.int p3), .val (.long q4), .second, .val (.long q5), .second, .val (.int dv), .val (.int fv), .val (.ref b1_), .val (.ref b4_), .unset] [(.long (0 : Int64)), (.long q5)])) tT
      refine XS.lcmp X7_.here hx rfl (Jvm.hb hby at_74) rfl ?_
      show Steps pP.tables eE below (T7_.setTop (mkF mM 75 #[.val (.long q1), .second, .val (.int p2), .val (.int p3), .val (.long q4), .second, .val (.long q5), .second, .val (.int dv), .val (.int fv), .val (.ref b1_), .val (.ref b4_), .unset] [(.int (lcmpW q5 (0 : Int64)))])) tT
      exact kK
    by_cases hc75_12_ : q5 < (0 : Int64)
    · refine own_fin (b := T7_.setTop (mkF mM 89 #[.val (.long q1), .second, .val (.int p2), .val (.int p3), .val (.long q4), .second, .val (.long q5), .second, .val (.int dv), .val (.int fv), .val (.ref b1_), .val (.ref b4_), .val (.int (0 : Int32))] [(.ref b4_)])) (fun tT kK => ?_) ?_
      · show Steps pP.tables eE below (T7_.setTop (mkF mM 75 #[.val (.long q1), .second, .val (.int p2), .val (.int p3), .val (.long q4), .second, .val (.long q5), .second, .val (.int dv), .val (.int fv), .val (.ref b1_), .val (.ref b4_), .unset] [(.int (lcmpW q5 (0 : Int64)))])) tT
        refine XS.ifNo X7_.here hx rfl (Jvm.hb hby at_75) rfl ((if0 _ _).trans (tlt ((lw_lt q5 (0 : Int64)).mpr (hc75_12_ : q5 < (0 : Int64)))).2.1) ?_
        show Steps pP.tables eE below (T7_.setTop (mkF mM 78 #[.val (.long q1), .second, .val (.int p2), .val (.int p3), .val (.long q4), .second, .val (.long q5), .second, .val (.int dv), .val (.int fv), .val (.ref b1_), .val (.ref b4_), .unset] [])) tT
        refine XS.iconst X7_.here hx rfl (Jvm.hb hby at_78) ?_
        show Steps pP.tables eE below (T7_.setTop (mkF mM 79 #[.val (.long q1), .second, .val (.int p2), .val (.int p3), .val (.long q4), .second, .val (.long q5), .second, .val (.int dv), .val (.int fv), .val (.ref b1_), .val (.ref b4_), .unset] [(.int (0 : Int32))])) tT
        refine XS.istore X7_.here hx rfl (Jvm.hb hby at_79) rfl (l' := #[.val (.long q1), .second, .val (.int p2), .val (.int p3), .val (.long q4), .second, .val (.long q5), .second, .val (.int dv), .val (.int fv), .val (.ref b1_), .val (.ref b4_), .val (.int (0 : Int32))]) rfl ?_
        show Steps pP.tables eE below (T7_.setTop (mkF mM 81 #[.val (.long q1), .second, .val (.int p2), .val (.int p3), .val (.long q4), .second, .val (.long q5), .second, .val (.int dv), .val (.int fv), .val (.ref b1_), .val (.ref b4_), .val (.int (0 : Int32))] [])) tT
        refine XS.goto X7_.here hx rfl (pc0 := 81) (pc' := 87) rfl (Jvm.hb hby at_81) (by decide) (by decide) ?_
        show Steps pP.tables eE below (T7_.setTop (mkF mM 87 #[.val (.long q1), .second, .val (.int p2), .val (.int p3), .val (.long q4), .second, .val (.long q5), .second, .val (.int dv), .val (.int fv), .val (.ref b1_), .val (.ref b4_), .val (.int (0 : Int32))] [])) tT
        refine XS.aload X7_.here hx rfl (Jvm.hb hby at_87) rfl rfl ?_
        show Steps pP.tables eE below (T7_.setTop (mkF mM 89 #[.val (.long q1), .second, .val (.int p2), .val (.int p3), .val (.long q4), .second, .val (.long q5), .second, .val (.int dv), .val (.int fv), .val (.ref b1_), .val (.ref b4_), .val (.int (0 : Int32))] [(.ref b4_)])) tT
        exact kK
      obtain ⟨cq13_, kq13_, q13_a, q13_b, q13_c⟩ := isOf hZ rfl p7__1
      obtain ⟨_, _, ⟨T13_, L13_, k13_, n13_⟩, -, X13_, ⟨Lc13_, hQ13_, l13_, y13_, z13_⟩, st13_⟩ := X7_.virtualBack hx (y := (⟨"com/example/portion/portion/server/Retry", "isLogged", "()Z"⟩ : MethodName)) (z := (⟨"com/example/portion/portion/server/Retry", "isLogged", "()Z"⟩ : MethodName)) hown (mvT hZ (hw _ (List.mem_of_getElem? (i := 37) rfl))) (mvT hZ (hw _ (List.mem_of_getElem? (i := 38) rfl))) (notFace_of_selects (args := #[]) (mvT hZ (hw _ (List.mem_of_getElem? (i := 40) rfl)))) (mvT hZ (hw _ (List.mem_of_getElem? (i := 40) rfl))) (mvT hZ (hw _ (List.mem_of_getElem? (i := 39) rfl))) (by decide) (backOf (W := 0) (rm_is lL Z a0 hw [] b4_ q5 T7_.heap n0 (Nat.le_trans Z0 K7_.1) p7__2) hZ (hw _ (List.mem_of_getElem? (i := 41) rfl)) (hw _ (List.mem_of_getElem? (i := 27) rfl)) (by decide) (by decide)) q13_a q13_c (g := (mkF mM 89 #[.val (.long q1), .second, .val (.int p2), .val (.int p3), .val (.long q4), .second, .val (.long q5), .second, .val (.int dv), .val (.int fv), .val (.ref b1_), .val (.ref b4_), .val (.int (0 : Int32))] [(.ref b4_)])) rfl (by rw [hml]; rfl) (Steps.refl _) (argsL := []) (rest := []) (lenOf own_pd3 rfl) rfl (by show 2 * 0 + _ ≤ _; exact Nat.le_of_eq rfl) (Jvm.hb hby at_89) (fun _ _ => ⟨rfl, rfl, (by decide : 2 + 0 ≤ _), (by decide : 6 + 0 ≤ _)⟩)
      dsimp only [Pt.U, Pt.locs, Pt.cells, Pt.slots] at X13_ l13_ y13_ z13_ st13_ hQ13_
      subst l13_ y13_ z13_
      obtain ⟨rfl, N13_q, p13__0⟩ := hQ13_
      have N13_ := Fr.app N7_ N13_q
      refine own_fin (fun tT kK => st13_.trans kK) ?_
      show own_Fin pP eE below _ (T13_.setTop (mkF mM 92 #[.val (.long q1), .second, .val (.int p2), .val (.int p3), .val (.long q4), .second, .val (.long q5), .second, .val (.int dv), .val (.int fv), .val (.ref b1_), .val (.ref b4_), .val (.int (0 : Int32))] [(.int (if q5 < (0 : Int64) then (0 : Int32) else (1 : Int32)))]))
      refine own_fin (b := T13_.setTop (mkF mM 102 #[.val (.long q1), .second, .val (.int p2), .val (.int p3), .val (.long q4), .second, .val (.long q5), .second, .val (.int dv), .val (.int fv), .val (.ref b1_), .val (.ref b4_), .val (.int (0 : Int32))] [(.int (1 : Int32))])) (fun tT kK => ?_) ?_
      · show Steps pP.tables eE below (T13_.setTop (mkF mM 92 #[.val (.long q1), .second, .val (.int p2), .val (.int p3), .val (.long q4), .second, .val (.long q5), .second, .val (.int dv), .val (.int fv), .val (.ref b1_), .val (.ref b4_), .val (.int (0 : Int32))] [(.int (if q5 < (0 : Int64) then (0 : Int32) else (1 : Int32)))])) tT
        refine XS.iload X13_.here hx rfl (Jvm.hb hby at_92) rfl ?_
        show Steps pP.tables eE below (T13_.setTop (mkF mM 94 #[.val (.long q1), .second, .val (.int p2), .val (.int p3), .val (.long q4), .second, .val (.long q5), .second, .val (.int dv), .val (.int fv), .val (.ref b1_), .val (.ref b4_), .val (.int (0 : Int32))] [(.int (0 : Int32)), (.int (if q5 < (0 : Int64) then (0 : Int32) else (1 : Int32)))])) tT
        refine XS.icmpNo X13_.here hx rfl (Jvm.hb hby at_94) rfl (teq ((if_pos hc75_12_) : (if q5 < (0 : Int64) then (0 : Int32) else (1 : Int32)) = (0 : Int32))).2 ?_
        show Steps pP.tables eE below (T13_.setTop (mkF mM 97 #[.val (.long q1), .second, .val (.int p2), .val (.int p3), .val (.long q4), .second, .val (.long q5), .second, .val (.int dv), .val (.int fv), .val (.ref b1_), .val (.ref b4_), .val (.int (0 : Int32))] [])) tT
        refine XS.iconst X13_.here hx rfl (Jvm.hb hby at_97) ?_
        show Steps pP.tables eE below (T13_.setTop (mkF mM 98 #[.val (.long q1), .second, .val (.int p2), .val (.int p3), .val (.long q4), .second, .val (.long q5), .second, .val (.int dv), .val (.int fv), .val (.ref b1_), .val (.ref b4_), .val (.int (0 : Int32))] [(.int (1 : Int32))])) tT
        refine XS.goto X13_.here hx rfl (pc0 := 98) (pc' := 102) rfl (Jvm.hb hby at_98) (by decide) (by decide) ?_
        show Steps pP.tables eE below (T13_.setTop (mkF mM 102 #[.val (.long q1), .second, .val (.int p2), .val (.int p3), .val (.long q4), .second, .val (.long q5), .second, .val (.int dv), .val (.int fv), .val (.ref b1_), .val (.ref b4_), .val (.int (0 : Int32))] [(.int (1 : Int32))])) tT
        exact kK
      obtain ⟨fs, hr, hrun, hended, hW, hsame⟩ := X13_.leave (v := some (.int (1 : Int32))) (fun h => by rw [Bd.returns] at h; cases h)
      refine ⟨_, _, ?_, hrun, hended, _, _, rfl, ?_, ⟨_, rfl⟩, hW, hsame.mono (by decide) (by decide)⟩
      · show Steps pP.tables eE below (T13_.setTop (mkF mM 102 #[.val (.long q1), .second, .val (.int p2), .val (.int p3), .val (.long q4), .second, .val (.long q5), .second, .val (.int dv), .val (.int fv), .val (.ref b1_), .val (.ref b4_), .val (.int (0 : Int32))] [(.int (1 : Int32))])) _
        exact retN X13_ hx (t := .boolean) Bd.returns (by simp) (Jvm.hb hby at_102) hr
      · show Q_rm0 Z q1 p2 p3 q4 q5 h0 n0 _ T13_.heap _
        rw [p13__0]
        exact ⟨rfl, N13_⟩
    · refine own_fin (b := T7_.setTop (mkF mM 89 #[.val (.long q1), .second, .val (.int p2), .val (.int p3), .val (.long q4), .second, .val (.long q5), .second, .val (.int dv), .val (.int fv), .val (.ref b1_), .val (.ref b4_), .val (.int (1 : Int32))] [(.ref b4_)])) (fun tT kK => ?_) ?_
      · show Steps pP.tables eE below (T7_.setTop (mkF mM 75 #[.val (.long q1), .second, .val (.int p2), .val (.int p3), .val (.long q4), .second, .val (.long q5), .second, .val (.int dv), .val (.int fv), .val (.ref b1_), .val (.ref b4_), .unset] [(.int (lcmpW q5 (0 : Int64)))])) tT
        refine XS.ifYes X7_.here hx rfl (pc0 := 75) (pc' := 84) rfl (Jvm.hb hby at_75) rfl ((if0 _ _).trans (flt (mt (lw_lt q5 (0 : Int64)).mp (hc75_12_ : ¬ (q5 < (0 : Int64))))).2.1) (by decide) (by decide) ?_
        show Steps pP.tables eE below (T7_.setTop (mkF mM 84 #[.val (.long q1), .second, .val (.int p2), .val (.int p3), .val (.long q4), .second, .val (.long q5), .second, .val (.int dv), .val (.int fv), .val (.ref b1_), .val (.ref b4_), .unset] [])) tT
        refine XS.iconst X7_.here hx rfl (Jvm.hb hby at_84) ?_
        show Steps pP.tables eE below (T7_.setTop (mkF mM 85 #[.val (.long q1), .second, .val (.int p2), .val (.int p3), .val (.long q4), .second, .val (.long q5), .second, .val (.int dv), .val (.int fv), .val (.ref b1_), .val (.ref b4_), .unset] [(.int (1 : Int32))])) tT
        refine XS.istore X7_.here hx rfl (Jvm.hb hby at_85) rfl (l' := #[.val (.long q1), .second, .val (.int p2), .val (.int p3), .val (.long q4), .second, .val (.long q5), .second, .val (.int dv), .val (.int fv), .val (.ref b1_), .val (.ref b4_), .val (.int (1 : Int32))]) rfl ?_
        show Steps pP.tables eE below (T7_.setTop (mkF mM 87 #[.val (.long q1), .second, .val (.int p2), .val (.int p3), .val (.long q4), .second, .val (.long q5), .second, .val (.int dv), .val (.int fv), .val (.ref b1_), .val (.ref b4_), .val (.int (1 : Int32))] [])) tT
        refine XS.aload X7_.here hx rfl (Jvm.hb hby at_87) rfl rfl ?_
        show Steps pP.tables eE below (T7_.setTop (mkF mM 89 #[.val (.long q1), .second, .val (.int p2), .val (.int p3), .val (.long q4), .second, .val (.long q5), .second, .val (.int dv), .val (.int fv), .val (.ref b1_), .val (.ref b4_), .val (.int (1 : Int32))] [(.ref b4_)])) tT
        exact kK
      obtain ⟨cq14_, kq14_, q14_a, q14_b, q14_c⟩ := isOf hZ rfl p7__1
      obtain ⟨_, _, ⟨T14_, L14_, k14_, n14_⟩, -, X14_, ⟨Lc14_, hQ14_, l14_, y14_, z14_⟩, st14_⟩ := X7_.virtualBack hx (y := (⟨"com/example/portion/portion/server/Retry", "isLogged", "()Z"⟩ : MethodName)) (z := (⟨"com/example/portion/portion/server/Retry", "isLogged", "()Z"⟩ : MethodName)) hown (mvT hZ (hw _ (List.mem_of_getElem? (i := 37) rfl))) (mvT hZ (hw _ (List.mem_of_getElem? (i := 38) rfl))) (notFace_of_selects (args := #[]) (mvT hZ (hw _ (List.mem_of_getElem? (i := 40) rfl)))) (mvT hZ (hw _ (List.mem_of_getElem? (i := 40) rfl))) (mvT hZ (hw _ (List.mem_of_getElem? (i := 39) rfl))) (by decide) (backOf (W := 0) (rm_is lL Z a0 hw [] b4_ q5 T7_.heap n0 (Nat.le_trans Z0 K7_.1) p7__2) hZ (hw _ (List.mem_of_getElem? (i := 41) rfl)) (hw _ (List.mem_of_getElem? (i := 27) rfl)) (by decide) (by decide)) q14_a q14_c (g := (mkF mM 89 #[.val (.long q1), .second, .val (.int p2), .val (.int p3), .val (.long q4), .second, .val (.long q5), .second, .val (.int dv), .val (.int fv), .val (.ref b1_), .val (.ref b4_), .val (.int (1 : Int32))] [(.ref b4_)])) rfl (by rw [hml]; rfl) (Steps.refl _) (argsL := []) (rest := []) (lenOf own_pd3 rfl) rfl (by show 2 * 0 + _ ≤ _; exact Nat.le_of_eq rfl) (Jvm.hb hby at_89) (fun _ _ => ⟨rfl, rfl, (by decide : 2 + 0 ≤ _), (by decide : 6 + 0 ≤ _)⟩)
      dsimp only [Pt.U, Pt.locs, Pt.cells, Pt.slots] at X14_ l14_ y14_ z14_ st14_ hQ14_
      subst l14_ y14_ z14_
      obtain ⟨rfl, N14_q, p14__0⟩ := hQ14_
      have N14_ := Fr.app N7_ N14_q
      refine own_fin (fun tT kK => st14_.trans kK) ?_
      show own_Fin pP eE below _ (T14_.setTop (mkF mM 92 #[.val (.long q1), .second, .val (.int p2), .val (.int p3), .val (.long q4), .second, .val (.long q5), .second, .val (.int dv), .val (.int fv), .val (.ref b1_), .val (.ref b4_), .val (.int (1 : Int32))] [(.int (if q5 < (0 : Int64) then (0 : Int32) else (1 : Int32)))]))
      refine own_fin (b := T14_.setTop (mkF mM 102 #[.val (.long q1), .second, .val (.int p2), .val (.int p3), .val (.long q4), .second, .val (.long q5), .second, .val (.int dv), .val (.int fv), .val (.ref b1_), .val (.ref b4_), .val (.int (1 : Int32))] [(.int (1 : Int32))])) (fun tT kK => ?_) ?_
      · show Steps pP.tables eE below (T14_.setTop (mkF mM 92 #[.val (.long q1), .second, .val (.int p2), .val (.int p3), .val (.long q4), .second, .val (.long q5), .second, .val (.int dv), .val (.int fv), .val (.ref b1_), .val (.ref b4_), .val (.int (1 : Int32))] [(.int (if q5 < (0 : Int64) then (0 : Int32) else (1 : Int32)))])) tT
        refine XS.iload X14_.here hx rfl (Jvm.hb hby at_92) rfl ?_
        show Steps pP.tables eE below (T14_.setTop (mkF mM 94 #[.val (.long q1), .second, .val (.int p2), .val (.int p3), .val (.long q4), .second, .val (.long q5), .second, .val (.int dv), .val (.int fv), .val (.ref b1_), .val (.ref b4_), .val (.int (1 : Int32))] [(.int (1 : Int32)), (.int (if q5 < (0 : Int64) then (0 : Int32) else (1 : Int32)))])) tT
        refine XS.icmpNo X14_.here hx rfl (Jvm.hb hby at_94) rfl (teq ((if_neg hc75_12_) : (if q5 < (0 : Int64) then (0 : Int32) else (1 : Int32)) = (1 : Int32))).2 ?_
        show Steps pP.tables eE below (T14_.setTop (mkF mM 97 #[.val (.long q1), .second, .val (.int p2), .val (.int p3), .val (.long q4), .second, .val (.long q5), .second, .val (.int dv), .val (.int fv), .val (.ref b1_), .val (.ref b4_), .val (.int (1 : Int32))] [])) tT
        refine XS.iconst X14_.here hx rfl (Jvm.hb hby at_97) ?_
        show Steps pP.tables eE below (T14_.setTop (mkF mM 98 #[.val (.long q1), .second, .val (.int p2), .val (.int p3), .val (.long q4), .second, .val (.long q5), .second, .val (.int dv), .val (.int fv), .val (.ref b1_), .val (.ref b4_), .val (.int (1 : Int32))] [(.int (1 : Int32))])) tT
        refine XS.goto X14_.here hx rfl (pc0 := 98) (pc' := 102) rfl (Jvm.hb hby at_98) (by decide) (by decide) ?_
        show Steps pP.tables eE below (T14_.setTop (mkF mM 102 #[.val (.long q1), .second, .val (.int p2), .val (.int p3), .val (.long q4), .second, .val (.long q5), .second, .val (.int dv), .val (.int fv), .val (.ref b1_), .val (.ref b4_), .val (.int (1 : Int32))] [(.int (1 : Int32))])) tT
        exact kK
      obtain ⟨fs, hr, hrun, hended, hW, hsame⟩ := X14_.leave (v := some (.int (1 : Int32))) (fun h => by rw [Bd.returns] at h; cases h)
      refine ⟨_, _, ?_, hrun, hended, _, _, rfl, ?_, ⟨_, rfl⟩, hW, hsame.mono (by decide) (by decide)⟩
      · show Steps pP.tables eE below (T14_.setTop (mkF mM 102 #[.val (.long q1), .second, .val (.int p2), .val (.int p3), .val (.long q4), .second, .val (.long q5), .second, .val (.int dv), .val (.int fv), .val (.ref b1_), .val (.ref b4_), .val (.int (1 : Int32))] [(.int (1 : Int32))])) _
        exact retN X14_ hx (t := .boolean) Bd.returns (by simp) (Jvm.hb hby at_102) hr
      · show Q_rm0 Z q1 p2 p3 q4 q5 h0 n0 _ T14_.heap _
        rw [p14__0]
        exact ⟨rfl, N14_⟩
set_option maxRecDepth 65536 in
set_option maxHeartbeats 40000000 in
theorem comes_1 {Post : Tables → Env → Array Value → State → Outcome → State → Prop} (hpost : ∀ tb e args s v u, (limb_1_1.after args s (.returned v) u = true ∧ limb_1_2.after args s (.returned v) u = true ∧ True) → FrameEnd s (.returned v) u (Jvm.fieldLocs frame_1_writes args s ++ Jvm.arrayLocs frame_1_arrays args s ++ Jvm.staticLocs frame_1_statics s) 16 128 → Post tb e args s (.returned v) u) :
    ArmFor flags0 classFile x code maxLocals ret World_1 tables_1 room_1 Calls_1 rest_1 Pre_1 Post := by
  intro l hfl _ _ p e ha hc hk s m args below hf hA hF happ hP
  obtain ⟨hcalls, hrest, hpre⟩ := hP
  obtain ⟨-, -, -, hnamed, -, -, -, hat⟩ := (Spec.applies_iff hf).mp happ
  obtain ⟨hg, hn⟩ := and_e (Cond.before_iff.mp (show (Jvm.Cond.and given_1 narrow_1).before args s = true from hpre))
  obtain ⟨gg1, gg2⟩ := and_e hg
  obtain ⟨gg3, gg4⟩ := and_e gg2
  obtain ⟨gg5, gg6⟩ := and_e gg4
  obtain ⟨gg7, gg8⟩ := and_e gg6
  obtain ⟨gg9, gg10⟩ := and_e gg8
  obtain ⟨w0, w1, w2, w3, w4, rfl⟩ : ∃ w0 w1 w2 w3 w4 : Value, args = #[w0, w1, w2, w3, w4] := by
    have hs : args.size = 5 := by simpa [Cond.value, given_1] using gg1
    obtain ⟨L⟩ := args
    match L, hs with
    | [w0, w1, w2, w3, w4], _ => exact ⟨w0, w1, w2, w3, w4, rfl⟩
  have hw := fun d (hd : d ∈ tables_1) => atoms_spec (ws := Jvm.Cond.code x code maxLocals ret :: tables_1) hat d (List.mem_cons_of_mem _ hd)
  have hfit : Fit s := fun {y c} hc i hi => by
    obtain ⟨ha, rfl⟩ := Array.getElem?_eq_some_iff.mp hc
    have q := List.all_eq_true.mp ((Array.all_eq_true_iff_forall_mem.mp hF) _ (Array.getElem_mem ha)) i (List.mem_range.mpr hi)
    simpa [Array.getElem?_eq_getElem hi] using q
  obtain ⟨i0, ei0⟩ := isL_v gg3
  obtain rfl : w0 = (.long i0) := Option.some.inj ei0
  obtain ⟨i1, ei1⟩ := is_v gg5
  obtain rfl : w1 = (.int i1) := Option.some.inj ei1
  obtain ⟨i2, ei2⟩ := is_v gg7
  obtain rfl : w2 = (.int i2) := Option.some.inj ei2
  obtain ⟨i3, ei3⟩ := isL_v gg9
  obtain rfl : w3 = (.long i3) := Option.some.inj ei3
  obtain ⟨i4, ei4⟩ := isL_v gg10
  obtain rfl : w4 = (.long i4) := Option.some.inj ei4
  obtain ⟨n, o, h1, h2, h3, _, L, rfl, ⟨rfl, N⟩, hq⟩ := rm0 l s _ hw tables_1 i0 i1 i2 i3 i4 s.heap s.heap.size (Nat.le_refl _)  p e ha hc hk s m _ below hf ((Spec.applies_iff_loose hf).mp happ).1 ⟨rfl, State.Warmed39.refl s, rfl⟩ trivial
  refine ⟨n, _, h1, h2, h3, hpost _ _ _ _ _ _ ⟨Cond.after_iff.mpr rfl, Cond.after_iff.mpr (eq_i res_at (Term.int_eval (1)) rfl), trivial⟩ ⟨hq.1, hq.2.1, (hq.2.2.sift fun y hy => Or.inr (N y hy)).mono (by decide) (by decide)⟩⟩
theorem main_1_1 : Claimed_1_1 := comes_1 fun _ _ _ _ _ _ h hF => ⟨h.1, hF⟩
theorem main_1_2 : Claimed_1_2 := comes_1 fun _ _ _ _ _ _ h hF => ⟨h.2.1, hF⟩
end Jvm.Pilot.@@N@@
namespace Jvm.Pilot.@@N@@
open Jvm Jvm.ClassFile Sem Op Lib Jvm.Free Jvm.Stand Jvm.Pilot.@@N@@.Jvm.D
/-! MADE BY PROGRAM (witnessworld.py) out of the Statement's table words and the real class files: 11 classes; the members and pool entries that the words name. The judged class is class 1, her method 1. -/
namespace start1
open Jvm.ClassFile
def u (s : String) : CpInfo := .utf8 (stringToUtf16 s)
/-- a pool by its gaps: so many unusable entries, then the entry; so many at the end -/
def gap : Nat → List CpInfo → List CpInfo
  | 0, r => r
  | n + 1, r => .unusable :: gap n r
def poolList (es : List (Nat × CpInfo)) (last : Nat) : List CpInfo := es.foldr (fun e r => gap e.1 (e.2 :: r)) (gap last [])
def pool (es : List (Nat × CpInfo)) (last : Nat) : Array CpInfo := ⟨poolList es last⟩
def fileOf (pool : Array CpInfo) (this : Nat) (attrs : Array Attribute := #[]) (ms : Array MethodInfo := #[]) (fl : Nat := 33) (sup : Nat := 0) (ifs : Array Nat := #[]) (fds : Array FieldInfo := #[]) : ClassFile where
  minorVersion := 0
  majorVersion := 65
  constantPool := pool
  accessFlags := fl
  thisClass := this
  superClass := sup
  interfaces := ifs
  fields := fds
  methods := ms
  attributes := attrs
def plain (name : String) (sup : Option ClassId) : Class where
  name := name
  kind := .ordinary
  loader := none
  accessFlags := 33
  super := sup
  interfaces := #[]
  cf := none
  fields := #[]
  methods := #[]
  instanceTypes := #[]
  staticTypes := #[]
  resolved := #[]
  callSites := []
  init := .initialized
  statics := none
  mirror := none

def pool0 : Array CpInfo := pool [(5, u "<init>"), (0, u "()V"), (1, .class_ 10), (1, u "java/lang/Object")] 113

def k0c0 : Code := { maxStack := 0, maxLocals := 1, code := object_method_1_code, exceptionTable := #[], attributes := #[] }
def k0m0 : Method := { name := "<init>", desc := "()V", sig := { parameters := [], returnType := none }, accessFlags := 1, code := some k0c0 }
/-- java/lang/Object -/
def k0 : Class := { plain "java/lang/Object" none with
  accessFlags := 33
  interfaces := #[]
  cf := some (fileOf pool0 8 #[] #[{ accessFlags := 1, nameIndex := 5, descriptorIndex := 6, attributes := #[] }] 33 0 #[] #[])
  fields := #[]
  methods := #[k0m0]
  instanceTypes := #[]
  staticTypes := #[]
  resolved := Array.replicate 124 none
  statics := none }

def pool1 : Array CpInfo := pool [(2, .class_ 4), (1, u "java/lang/Object"), (0, u "<init>"), (0, u "()V"), (0, .integer 1073741823), (0, .integer 2147483647), (0, .class_ 10), (0, u "com/example/portion/portion/server/Redelivery"), (2, .long 9223372036854775807), (1, .methodref 9 16), (0, .nameAndType 5 17), (0, u "(JIIJ)V"), (0, .class_ 19), (0, u "com/example/portion/portion/server/Retry"), (0, .methodref 18 21), (0, .nameAndType 5 22), (0, u "(Lcom/example/portion/portion/server/Redelivery;J)V"), (0, .long 18446744073709551615), (1, .methodref 18 26), (0, .nameAndType 27 28), (0, u "isLogged"), (0, u "()Z"), (0, .class_ 30), (0, u "com/example/portion/portion/server/RetryIsLoggedPinLaw"), (2, u "law"), (0, u "(JIIJJ)Z")] 3

def k1m0 : Method := { name := "<init>", desc := "()V", sig := { parameters := [], returnType := none }, accessFlags := 1, code := none }
def k1c1 : Code := { maxStack := 10, maxLocals := 13, code := code, exceptionTable := #[], attributes := #[] }
def k1m1 : Method := { name := "law", desc := "(JIIJJ)Z", sig := { parameters := [.long, .int, .int, .long, .long], returnType := some .boolean }, accessFlags := 9, code := some k1c1 }
/-- com/example/portion/portion/server/RetryIsLoggedPinLaw -/
def k1 : Class := { plain "com/example/portion/portion/server/RetryIsLoggedPinLaw" (some 0) with
  accessFlags := 49
  interfaces := #[]
  cf := some (fileOf pool1 29 #[] #[{ accessFlags := 1, nameIndex := 5, descriptorIndex := 6, attributes := #[] }, { accessFlags := 9, nameIndex := 33, descriptorIndex := 34, attributes := #[] }] 49 2 #[] #[])
  fields := #[]
  methods := #[k1m0, k1m1]
  instanceTypes := #[]
  staticTypes := #[]
  resolved := Array.replicate 38 none
  statics := none }

def pool2 : Array CpInfo := pool [(1, .methodref 2 3), (0, .class_ 4), (0, .nameAndType 5 6), (0, u "java/lang/Object"), (0, u "<init>"), (0, u "()V"), (0, .class_ 8), (0, u "java/lang/Record")] 13

def k2c0 : Code := { maxStack := 1, maxLocals := 1, code := jdk_30_method_1_code, exceptionTable := #[], attributes := #[] }
def k2m0 : Method := { name := "<init>", desc := "()V", sig := { parameters := [], returnType := none }, accessFlags := 4, code := some k2c0 }
/-- java/lang/Record -/
def k2 : Class := { plain "java/lang/Record" (some 0) with
  accessFlags := 1057
  interfaces := #[]
  cf := some (fileOf pool2 7 #[] #[{ accessFlags := 4, nameIndex := 5, descriptorIndex := 6, attributes := #[] }] 1057 2 #[] #[])
  fields := #[]
  methods := #[k2m0]
  instanceTypes := #[]
  staticTypes := #[]
  resolved := Array.replicate 22 none
  statics := none }

def pool3 : Array CpInfo := pool [(1, .methodref 2 3), (0, .class_ 4), (0, .nameAndType 5 6), (0, u "java/lang/Record"), (0, u "<init>"), (0, u "()V"), (9, .fieldref 17 18), (0, .class_ 19), (0, .nameAndType 20 21), (0, u "com/example/portion/portion/server/Redelivery"), (0, u "offset"), (0, u "J"), (0, .fieldref 17 23), (0, .nameAndType 24 25), (0, u "deliveries"), (0, u "I"), (0, .fieldref 17 27), (0, .nameAndType 28 25), (0, u "failures"), (0, .fieldref 17 30), (0, .nameAndType 31 21), (0, u "retryAt"), (12, u "(JIIJ)V")] 39

def k3c0 : Code := { maxStack := 8, maxLocals := 7, code := prog_60_method_1_code, exceptionTable := #[], attributes := #[] }
def k3m0 : Method := { name := "<init>", desc := "(JIIJ)V", sig := { parameters := [.long, .int, .int, .long], returnType := none }, accessFlags := 0, code := some k3c0 }
/-- com/example/portion/portion/server/Redelivery -/
def k3 : Class := { plain "com/example/portion/portion/server/Redelivery" (some 2) with
  accessFlags := 48
  interfaces := #[]
  cf := some (fileOf pool3 17 #[] #[{ accessFlags := 0, nameIndex := 5, descriptorIndex := 44, attributes := #[] }] 48 2 #[] #[{ accessFlags := 18, nameIndex := 20, descriptorIndex := 21, attributes := #[] }, { accessFlags := 18, nameIndex := 24, descriptorIndex := 25, attributes := #[] }, { accessFlags := 18, nameIndex := 28, descriptorIndex := 25, attributes := #[] }, { accessFlags := 18, nameIndex := 31, descriptorIndex := 21, attributes := #[] }])
  fields := #[{ name := "offset", type := .long, accessFlags := 18, slot := 0, constantValue := 0 }, { name := "deliveries", type := .int, accessFlags := 18, slot := 1, constantValue := 0 }, { name := "failures", type := .int, accessFlags := 18, slot := 2, constantValue := 0 }, { name := "retryAt", type := .long, accessFlags := 18, slot := 3, constantValue := 0 }]
  methods := #[k3m0]
  instanceTypes := #[.long, .int, .int, .long]
  staticTypes := #[]
  resolved := Array.replicate 84 none
  statics := none }

def pool4 : Array CpInfo := pool [(1, .methodref 2 3), (0, .class_ 4), (0, .nameAndType 5 6), (0, u "java/lang/Record"), (0, u "<init>"), (0, u "()V"), (0, .fieldref 8 9), (0, .class_ 10), (0, .nameAndType 11 12), (0, u "com/example/portion/portion/server/Retry"), (0, u "redelivery"), (0, u "Lcom/example/portion/portion/server/Redelivery;"), (0, .fieldref 8 14), (0, .nameAndType 15 16), (0, u "position"), (0, u "J"), (37, u "BY_RETRY_TIME"), (0, u "Ljava/util/Comparator;"), (2, u "(Lcom/example/portion/portion/server/Redelivery;J)V"), (3, u "isLogged"), (0, u "()Z")] 42

def k4c0 : Code := { maxStack := 3, maxLocals := 4, code := prog_62_method_1_code, exceptionTable := #[], attributes := #[] }
def k4m0 : Method := { name := "<init>", desc := "(Lcom/example/portion/portion/server/Redelivery;J)V", sig := { parameters := [(.object "com/example/portion/portion/server/Redelivery"), .long], returnType := none }, accessFlags := 0, code := some k4c0 }
def k4c1 : Code := { maxStack := 4, maxLocals := 1, code := prog_62_method_4_code, exceptionTable := #[], attributes := #[] }
def k4m1 : Method := { name := "isLogged", desc := "()Z", sig := { parameters := [], returnType := some .boolean }, accessFlags := 0, code := some k4c1 }
/-- com/example/portion/portion/server/Retry -/
def k4 : Class := { plain "com/example/portion/portion/server/Retry" (some 2) with
  accessFlags := 48
  interfaces := #[]
  cf := some (fileOf pool4 8 #[] #[{ accessFlags := 0, nameIndex := 5, descriptorIndex := 58, attributes := #[] }, { accessFlags := 0, nameIndex := 62, descriptorIndex := 63, attributes := #[] }] 48 2 #[] #[{ accessFlags := 18, nameIndex := 11, descriptorIndex := 12, attributes := #[] }, { accessFlags := 18, nameIndex := 15, descriptorIndex := 16, attributes := #[] }, { accessFlags := 24, nameIndex := 54, descriptorIndex := 55, attributes := #[] }])
  fields := #[{ name := "redelivery", type := (.object "com/example/portion/portion/server/Redelivery"), accessFlags := 18, slot := 0, constantValue := 0 }, { name := "position", type := .long, accessFlags := 18, slot := 1, constantValue := 0 }, { name := "BY_RETRY_TIME", type := (.object "java/util/Comparator"), accessFlags := 24, slot := 0, constantValue := 0 }]
  methods := #[k4m0, k4m1]
  instanceTypes := #[(.object "com/example/portion/portion/server/Redelivery"), .long]
  staticTypes := #[(.object "java/util/Comparator")]
  resolved := Array.replicate 106 none
  statics := none }

def pool5 : Array CpInfo := pool [(1, u "java/lang/Cloneable"), (0, .class_ 1), (0, u "java/lang/Object"), (0, .class_ 3)] 3

/-- java/lang/Cloneable -/
def k5 : Class := { plain "java/lang/Cloneable" (some 0) with
  accessFlags := 1537
  interfaces := #[]
  cf := some (fileOf pool5 2 #[] #[] 1537 4 #[] #[])
  fields := #[]
  methods := #[]
  instanceTypes := #[]
  staticTypes := #[]
  resolved := Array.replicate 8 none
  statics := none }

def pool6 : Array CpInfo := pool [(1, u "java/io/Serializable"), (0, .class_ 1), (0, u "java/lang/Object"), (0, .class_ 3)] 3

/-- java/io/Serializable -/
def k6 : Class := { plain "java/io/Serializable" (some 0) with
  accessFlags := 1537
  interfaces := #[]
  cf := some (fileOf pool6 2 #[] #[] 1537 4 #[] #[])
  fields := #[]
  methods := #[]
  instanceTypes := #[]
  staticTypes := #[]
  resolved := Array.replicate 8 none
  statics := none }

/-- the primitive byte -/
def k7 : Class := { plain "byte" none with kind := .primitive 'B', accessFlags := 0x411 }
/-- [B -/
def k8 : Class := { plain "[B" (some 0) with kind := .array 7 .byte, interfaces := #[5, 6], accessFlags := 1041 }

/-- the primitive int -/
def k9 : Class := { plain "int" none with kind := .primitive 'I', accessFlags := 0x411 }
/-- [I -/
def k10 : Class := { plain "[I" (some 0) with kind := .array 9 .int, interfaces := #[5, 6], accessFlags := 1041 }

def heap : Heap := #[]
def classes : Array Class := #[k0, k1, k2, k3, k4, k5, k6, k7, k8, k9, k10]
def interned : List (Array UInt16 × Addr) := []
def slotsUsed : Nat := 0
def theMethod : MethodId := ⟨1, 1⟩
def args0 : Array Value := #[.long 5, .int 5, .int 5, .long 5, .long 5]
def aboutOver (below : List Frame) : State where
  vm := { classes := classes, interned := interned.toArray }
  heap := heap
  slotsUsed := slotsUsed
  threads := #[{ frames := .invoking theMethod args0 :: below }]
def below0 : List Frame := [.native { method := ⟨0, 0⟩, args := #[] }]
def about1 : State := aboutOver below0
def p0 : Program := .bare "" "" ""
def e0 : Env := launch0.env 0 0 0
theorem w_frames : about1.frames = Frame.invoking theMethod args0 :: below0 := rfl
set_option maxRecDepth 65536 in
theorem w_args : argsFit about1.vm theMethod args0 = true := by decide +kernel
set_option maxRecDepth 65536 in
theorem w_heap : heapFits about1 = true := by decide +kernel
set_option maxRecDepth 65536 in
theorem w_runnable : about1.curStatus? = some .runnable := by decide +kernel
set_option maxRecDepth 65536 in
theorem w_alone : about1.alone = true := by decide +kernel
set_option maxRecDepth 65536 in
theorem w_named : about1.methodNamed? x = some theMethod := by decide +kernel
set_option maxRecDepth 65536 in
theorem w_hears : about1.hears theMethod below0 = true := by decide +kernel
set_option maxRecDepth 65536 in
theorem w_ripe : about1.ripe theMethod args0 below0 = true := by decide +kernel
theorem w_running : about1.status = .running := rfl
set_option maxRecDepth 65536 in
theorem w_room : about1.hasRoom e0.platform room_1 = true :=
  launch0.hasRoom_least _ room_1 (by decide +kernel) (by decide +kernel) (by decide +kernel) (by decide +kernel) (by decide +kernel) (by decide +kernel)
theorem allAtoms_all (ts : List Jvm.Cond) (a : Array Jvm.Value) (st : Jvm.State) : (allAtoms ts).before a st = ts.all (fun c => c.before a st) := by
  induction ts with
  | nil => rfl
  | cons c t ih =>
    show (Jvm.Cond.and c (allAtoms t)).before a st = _
    rw [Jvm.Cond.before_and, ih, List.all_cons]
def words1 : List Jvm.Cond := Jvm.Cond.code x code maxLocals ret :: tables_1
/-- a 'code' word, met by the world's own term for the bytes: nothing is compared byte by byte -/
theorem code_word {y : MethodName} {bytes : ByteArray} {mx : Nat} {rt : Option FieldType} {a : Array Value} {s : State} {m : MethodId} {meth : Method} {c : Code} (h1 : s.methodNamed? y = some m) (h2 : s.vm.method? m = some meth) (h3 : meth.code = some c) (h4 : c.code = bytes)
    (h5 : (c.maxLocals == mx && c.exceptionTable.isEmpty && decide (c.maxStack ≤ mostOperands) && decide (meth.sig.returnType = rt) && !meth.locks && decide (parseMethodDescriptor y.desc = some meth.sig)) = true) : (Jvm.Cond.code y bytes mx rt).before a s = true := by
  simp only [Bool.and_eq_true, beq_iff_eq, Bool.not_eq_true', decide_eq_true_eq] at h5
  obtain ⟨⟨⟨⟨⟨g1, g2⟩, g3⟩, g4⟩, g5⟩, g6⟩ := h5
  simp [Cond.before, Cond.holds, Cond.value, h1, h2, h3, h4, g1, g2, g3, g4, g5, g6]
def isCode : Jvm.Cond → Bool
  | .code _ _ _ _ => true
  | _ => false
theorem all_split {L : List Jvm.Cond} {P : Jvm.Cond → Bool} (h1 : L.all (fun c => isCode c || P c) = true) (h2 : ∀ c ∈ L.filter isCode, P c = true) : L.all P = true := by
  refine List.all_eq_true.mpr fun c hc => ?_
  have h := List.all_eq_true.mp h1 c hc
  rcases Bool.eq_false_or_eq_true (isCode c) with hi | hi
  · exact h2 c (List.mem_filter.mpr ⟨hc, hi⟩)
  · simpa [hi] using h
set_option maxRecDepth 65536 in
theorem w_c0 : (Jvm.Cond.code x code maxLocals ret).before args0 about1 = true := code_word (m := ⟨1, 1⟩) (meth := k1m1) (c := k1c1) (by decide +kernel) rfl rfl rfl (by decide +kernel)
set_option maxRecDepth 65536 in
theorem w_c1 : (Jvm.Cond.code ({ cls := "com/example/portion/portion/server/Redelivery", name := "<init>", desc := "(JIIJ)V" } : Jvm.MethodName) prog_60_method_1_code (7 : Nat) (Option.none : Option Jvm.ClassFile.FieldType)).before args0 about1 = true := code_word (m := ⟨3, 0⟩) (meth := k3m0) (c := k3c0) (by decide +kernel) rfl rfl rfl (by decide +kernel)
set_option maxRecDepth 65536 in
theorem w_c2 : (Jvm.Cond.code ({ cls := "java/lang/Record", name := "<init>", desc := "()V" } : Jvm.MethodName) jdk_30_method_1_code (1 : Nat) (Option.none : Option Jvm.ClassFile.FieldType)).before args0 about1 = true := code_word (m := ⟨2, 0⟩) (meth := k2m0) (c := k2c0) (by decide +kernel) rfl rfl rfl (by decide +kernel)
set_option maxRecDepth 65536 in
theorem w_c3 : (Jvm.Cond.code ({ cls := "java/lang/Object", name := "<init>", desc := "()V" } : Jvm.MethodName) object_method_1_code (1 : Nat) (Option.none : Option Jvm.ClassFile.FieldType)).before args0 about1 = true := code_word (m := ⟨0, 0⟩) (meth := k0m0) (c := k0c0) (by decide +kernel) rfl rfl rfl (by decide +kernel)
set_option maxRecDepth 65536 in
theorem w_c4 : (Jvm.Cond.code ({ cls := "com/example/portion/portion/server/Retry", name := "<init>", desc := "(Lcom/example/portion/portion/server/Redelivery;J)V" } : Jvm.MethodName) prog_62_method_1_code (4 : Nat) (Option.none : Option Jvm.ClassFile.FieldType)).before args0 about1 = true := code_word (m := ⟨4, 0⟩) (meth := k4m0) (c := k4c0) (by decide +kernel) rfl rfl rfl (by decide +kernel)
set_option maxRecDepth 65536 in
theorem w_c5 : (Jvm.Cond.code ({ cls := "com/example/portion/portion/server/Retry", name := "isLogged", desc := "()Z" } : Jvm.MethodName) prog_62_method_4_code (1 : Nat) (Option.some Jvm.ClassFile.FieldType.boolean)).before args0 about1 = true := code_word (m := ⟨4, 1⟩) (meth := k4m1) (c := k4c1) (by decide +kernel) rfl rfl rfl (by decide +kernel)
def codes1 : List Jvm.Cond := [Jvm.Cond.code x code maxLocals ret, Jvm.Cond.code ({ cls := "com/example/portion/portion/server/Redelivery", name := "<init>", desc := "(JIIJ)V" } : Jvm.MethodName) prog_60_method_1_code (7 : Nat) (Option.none : Option Jvm.ClassFile.FieldType), Jvm.Cond.code ({ cls := "java/lang/Record", name := "<init>", desc := "()V" } : Jvm.MethodName) jdk_30_method_1_code (1 : Nat) (Option.none : Option Jvm.ClassFile.FieldType), Jvm.Cond.code ({ cls := "java/lang/Object", name := "<init>", desc := "()V" } : Jvm.MethodName) object_method_1_code (1 : Nat) (Option.none : Option Jvm.ClassFile.FieldType), Jvm.Cond.code ({ cls := "com/example/portion/portion/server/Retry", name := "<init>", desc := "(Lcom/example/portion/portion/server/Redelivery;J)V" } : Jvm.MethodName) prog_62_method_1_code (4 : Nat) (Option.none : Option Jvm.ClassFile.FieldType), Jvm.Cond.code ({ cls := "com/example/portion/portion/server/Retry", name := "isLogged", desc := "()Z" } : Jvm.MethodName) prog_62_method_4_code (1 : Nat) (Option.some Jvm.ClassFile.FieldType.boolean)]
set_option maxRecDepth 65536 in
theorem codes_eq : words1.filter isCode = codes1 := rfl
theorem w_codes : ∀ c ∈ words1.filter isCode, c.before args0 about1 = true := by
  rw [codes_eq]
  intro c hc
  simp only [codes1, List.mem_cons, List.not_mem_nil, or_false] at hc
  rcases hc with rfl | rfl | rfl | rfl | rfl | rfl
  · exact w_c0
  · exact w_c1
  · exact w_c2
  · exact w_c3
  · exact w_c4
  · exact w_c5
set_option maxRecDepth 65536 in
theorem w_t1 : (words1.take 24).all (fun c => isCode c || c.before args0 about1) = true := by decide +kernel
set_option maxRecDepth 65536 in
theorem w_t2 : (words1.drop 24).all (fun c => isCode c || c.before args0 about1) = true := by decide +kernel
theorem w_tables : (allAtoms (Jvm.Cond.code x code maxLocals ret :: tables_1)).before args0 about1 = true := by
  rw [allAtoms_all]
  show words1.all (fun c => c.before args0 about1) = true
  refine all_split ?_ w_codes
  rw [← List.take_append_drop 24 words1, List.all_append, w_t1, w_t2]
  rfl
set_option maxRecDepth 65536 in
theorem w_case : (Jvm.Cond.and given_1 narrow_1).before args0 about1 = true := by decide +kernel
theorem w_applies : (headSpec (Jvm.Cond.code x code maxLocals ret :: tables_1) room_1).applies x e0.platform about1 = true :=
  (Spec.applies_iff w_frames).mpr ⟨w_running, w_runnable, w_alone, w_named, w_hears, w_ripe, w_room, w_tables⟩
theorem atStart : AtStart classFile x code maxLocals ret World_1 tables_1 room_1 Calls_1 rest_1 Pre_1 launch0 p0 e0 about1 theMethod args0 below0 :=
  ⟨lists_1, trivial, launch0.admits_env _ _ _, launch0.least_env, fairChoices_fair.cas, fairChoices_fair.clock, w_frames, w_args, w_heap, w_applies, trivial, trivial, w_case⟩
end start1
theorem witness_1 : WitnessClaimed_1 := ⟨start1.p0, start1.e0, start1.about1, start1.theMethod, start1.args0, start1.below0, start1.atStart⟩
end Jvm.Pilot.@@N@@
