import JvmDerived
import JvmDerived.Pilot.@@N@@Statement
import JvmDerived.Pilot.@@N@@Code
set_option linter.unusedVariables false
set_option linter.unusedSimpArgs false
namespace Jvm.Pilot.@@N@@
open Jvm Jvm.ClassFile Sem Op Lib Jvm.Free Jvm.Stand Jvm.LawKit Jvm.RoadKit Bundle Jvm.Pilot.@@N@@.Jvm.D
def own_Fin (p : Program) (e : Env) (below : List Frame) (P : State → Outcome → Prop) (a : State) : Prop := ∃ t o, Steps p.tables e below a t ∧ t.status = .running ∧ Ended t below o ∧ P t o
theorem own_fin {p : Program} {e : Env} {below : List Frame} {P : State → Outcome → Prop} {a b : State} (k : ∀ t, Steps p.tables e below b t → Steps p.tables e below a t) (h : own_Fin p e below P b) : own_Fin p e below P a := by
  obtain ⟨t, o, s, r⟩ := h
  exact ⟨t, o, k t s, r⟩
theorem own_rw {T : State} {h : Heap} {a : Addr} {c : Cell} (e : T.heap = h) (q : h[a]? = some c) : T.heap[a]? = some c := by rw [e]; exact q
theorem own_StaKeep {Z : State} {h : Heap} {C n d : String} {v : Value} {n0 : Nat} (O : Old Z n0 h) (F : Sta Z Z.heap C n d v) : Sta Z h C n d v := F.ext O.2

theorem own_NSroot {Z : State} {a0 : Array Value} {O K : String} {n : Nat} (w : (Jvm.Cond.noSuperclass O).before a0 Z = true) (wk : (Jvm.Cond.instantiable K n).before a0 Z = true) (hn : O ≠ K) : NS Z O K := by
  obtain ⟨c, k, h1, h2, h3, -, -⟩ := Cond.noSuperclass_spec w
  obtain ⟨t, -, g1, -⟩ := Cond.instantiable_spec wk
  have ne := ids_ne h1 g1 hn
  refine ⟨c, t, h1, g1, fun fuel => ?_⟩
  match fuel with
  | 0 => rfl
  | f + 1 => simp [Vm.isSubclassAux, ne, h2, h3]
theorem own_NSno {Z : State} {a0 : Array Value} {C S K : String} {n : Nat} (w : (Jvm.Cond.superclass C S).before a0 Z = true) (wk : (Jvm.Cond.instantiable K n).before a0 Z = true) (q : NS Z C K) (hn : C ≠ K) : ∃ c t, Z.vm.findClass C = some c ∧ Z.vm.findClass K = some t ∧ Z.vm.assignable c t = false := by
  obtain ⟨c, t, h0, g0, n3⟩ := q
  obtain ⟨_, k, _, -, h2, -, -, h5, -, h7⟩ := Cond.superclass_spec h0 w
  obtain ⟨t', k', g1, g2, g5, g7, -, -⟩ := Cond.instantiable_spec wk
  cases g0.symm.trans g1
  have g8 : k'.isInterface = false := by cases hq : k'.isInterface <;> simp [hq] at g7 ⊢
  have ne := ids_ne h0 g0 hn
  refine ⟨c, t, h0, g0, ?_⟩
  show Z.vm.assignableAux (255 + 1) c t = false
  simp [Vm.assignableAux, ne, h2, g2, h5, g5, g8, Vm.isSubclass, n3]
theorem own_sym {α β : Type} [DecidableEq α] [DecidableEq β] (a b : α) (c d : β) : (if a = b then (if c = d then (1 : Int32) else (0 : Int32)) else (0 : Int32)) = (if b = a then (if d = c then (1 : Int32) else (0 : Int32)) else (0 : Int32)) := by
  by_cases h : a = b
  · subst h
    by_cases g : c = d
    · subst g; rfl
    · rw [if_pos rfl, if_pos rfl, if_neg g, if_neg (Ne.symm g)]
  · rw [if_neg h, if_neg (Ne.symm h)]
def own_Cache (Z : State) (ca : Addr) (cl : Cell) : Prop := Arr Z Z.heap ca cl (.object "java/lang/Long") ∧ cl.slots.size = 256 ∧ ∀ j : Int32, ¬ (j < 0 ∨ cl.slots.size ≤ j.toNatClampNeg) → ∃ x, cl.slots[j.toNatClampNeg]? = some (.ref x) ∧ Exa Z Z.heap x "java/lang/Long"
abbrev own_ct : Jvm.Term := Jvm.Term.static "java/lang/Long$LongCache" "cache" "[Ljava/lang/Long;"
theorem own_cache {args : Array Value} {s : State} {d : Jvm.Cond} (w2 : (Jvm.Cond.arrayOf own_ct (.object "java/lang/Long")).before args s = true) (w4 : (Jvm.Cond.eq (Jvm.Term.length own_ct) (Jvm.Term.int (256 : Int32))).before args s = true)
    (w5 : (Jvm.Cond.all own_ct (Jvm.Cond.and (Jvm.Cond.exactly (Jvm.Term.elem own_ct (Jvm.Term.index (0 : Nat))) "java/lang/Long") d)).before args s = true) :
    ∃ ca cl, own_ct.eval args s none [] s = some (.ref ca) ∧ own_Cache s ca cl := by
  obtain ⟨ca, ev⟩ := arr_v (Cond.before_iff.mp w2)
  obtain ⟨cl, A⟩ := Arr.start ev (Cond.before_iff.mp w2)
  have hat : s.arrayAt? ca = some cl := IntBox.arrayAt_of A.1 A.2.1 A.2.2
  obtain ⟨h1, h2⟩ := IntBox.length_fwd w4 ev A.1 A.2.1 A.2.2
  have hz : cl.slots.size = 256 := by
    have e := len_toInt h1
    rw [h2] at e
    have e2 : (256 : Int32).toInt = 256 := rfl
    omega
  have hall := Cond.all_elim ev hat (Cond.before_iff.mp w5)
  refine ⟨ca, cl, ev, A, hz, fun j hj => ?_⟩
  have hlt : j.toNatClampNeg < cl.slots.size := Nat.lt_of_not_le fun q => hj (Or.inr q)
  have hjn : ¬ j < 0 := fun q => hj (Or.inl q)
  obtain ⟨hx, -⟩ := and_e (hall _ hlt)
  obtain ⟨x, ex⟩ := exa_v hx
  have evi : own_ct.eval args s none [j.toNatClampNeg] s = some (.ref ca) := ev
  have e1 := elem_f (a := Jvm.Term.index (0 : Nat)) evi (idx_at (args := args) (s := s) (first := s) (o := none) hjn) hat hjn
  exact ⟨x, e1.symm.trans ex, exa_at ex hx⟩
theorem own_d1_0 : decode prog_32_method_1_code 0 = .ok (.aload_n 0, 1) := by decide +kernel
theorem own_d1_1 : decode prog_32_method_1_code 1 = .ok (.invokespecial 1, 3) := by decide +kernel
theorem own_d1_4 : decode prog_32_method_1_code 4 = .ok (.aload_n 0, 1) := by decide +kernel
theorem own_d1_5 : decode prog_32_method_1_code 5 = .ok (.lload_n 1, 1) := by decide +kernel
theorem own_d1_6 : decode prog_32_method_1_code 6 = .ok (.putfield 7, 3) := by decide +kernel
theorem own_d1_9 : decode prog_32_method_1_code 9 = .ok (.aload_n 0, 1) := by decide +kernel
theorem own_d1_10 : decode prog_32_method_1_code 10 = .ok (.lload_n 3, 1) := by decide +kernel
theorem own_d1_11 : decode prog_32_method_1_code 11 = .ok (.putfield 13, 3) := by decide +kernel
theorem own_d1_14 : decode prog_32_method_1_code 14 = .ok (.return_, 1) := by decide +kernel
theorem own_pn_com_example_epoch_epoch_Trimmed : plainName "com/example/epoch/epoch/Trimmed" = true := by first | (simp [plainName, overriddenIn]; done) | decide +kernel
theorem own_ef_rm_trim (mM : MethodId) (x0 : Addr) (x1 : Int64) (x2 : Int64) : entryFrame mM #[(.ref x0), (.long x1), (.long x2)] 5 = mkF mM 0 #[.val (.ref x0), .val (.long x1), .second, .val (.long x2), .second] [] := by first | (simp [entryFrame, mkF, argsToLocals, Value.category]; done) | rfl
def Q_rm_trim (Z : State) (a : Addr) (q0 : Int64) (q1 : Int64) (h0 : Heap) (n0 : Nat) (vV : Option Value) (hH : Heap) (lA : List Loc) : Prop := vV = none ∧ Fr n0 lA ∧ (Keep h0 hH [a]) ∧ (Exa Z hH a "com/example/epoch/epoch/Trimmed") ∧ (Fld Z hH a "com/example/epoch/epoch/Trimmed" "floor" "J" (.long q0)) ∧ (Fld Z hH a "com/example/epoch/epoch/Trimmed" "removed" "J" (.long q1))
set_option maxRecDepth 65536 in
set_option maxHeartbeats 40000000 in
theorem rm_trim (lL : Launch) (Z : State) (a0 : Array Value) (hw : ∀ d ∈ tables_1, d.before a0 Z = true) (ws : List Jvm.Cond) (a : Addr) (q0 : Int64) (q1 : Int64) (h0 : Heap) (n0 : Nat) (Z0 : n0 ≤ h0.size) (Ea : Exa Z h0 a "com/example/epoch/epoch/Trimmed") (F0 : Fld Z h0 a "com/example/epoch/epoch/Trimmed" "floor" "J" (.long (0 : Int64))) (F1 : Fld Z h0 a "com/example/epoch/epoch/Trimmed" "removed" "J" (.long (0 : Int64))) (ga : n0 ≤ a) :
    MetFree lL (⟨"com/example/epoch/epoch/Trimmed", "<init>", "(JJ)V"⟩ : MethodName) (head1 (Jvm.Cond.code (⟨"com/example/epoch/epoch/Trimmed", "<init>", "(JJ)V"⟩ : MethodName) prog_32_method_1_code 5 none :: ws) ({ frames := 1, cells := 0, slots := 0, locals := 12 } : Room)) (fun aA uU => aA = #[(.ref a), (.long q0), (.long q1)] ∧ Z.Warmed39 uU.vm ∧ uU.heap = h0) (fun _ _ _ _ _ => True) (fun _ uU oO uU' => ∃ vV lA, oO = .returned vV ∧ Q_rm_trim Z a q0 q1 h0 n0 vV uU'.heap lA ∧ FrameEnd uU oO uU' lA ({ frames := 1, cells := 0, slots := 0, locals := 12 } : Room).cells ({ frames := 1, cells := 0, slots := 0, locals := 12 } : Room).slots) := by
  refine MetFree.of_bodySF (plainFor_of_name own_pn_com_example_epoch_epoch_Trimmed) hisR ?_
  intro pP eE sS mM args below meth cC s₁ Bd hml0 hP hK
  obtain ⟨rfl, hZ, hh⟩ := hP
  have hx := Bd.exec
  have hby := Bd.bytes
  have hml : cC.maxLocals = 5 := hml0
  have hown : sS.vm.findClass "com/example/epoch/epoch/Trimmed" = some mM.cls := findClass_of_methodNamed Bd.named
  have hnm := (name_of_methodNamed Bd.named Bd.method).1
  have X0 : Stand pP lL eE ({ frames := 1, cells := 0, slots := 0, locals := 12 } : Room) sS mM #[(.ref a), (.long q0), (.long q1)] below meth cC s₁ [] 0 0 := Stand.of_body Bd
  have e0 : s₁.heap = h0 := by rw [← hh, Bd.state]; rfl
  have N0 := Fr.nil n0
  have K0 := Keep.refl h0 [a]
  show own_Fin pP eE below (fun tT oO => ∃ vV lA, oO = .returned vV ∧ Q_rm_trim Z a q0 q1 h0 n0 vV tT.heap lA ∧ FrameEnd sS oO tT lA ({ frames := 1, cells := 0, slots := 0, locals := 12 } : Room).cells ({ frames := 1, cells := 0, slots := 0, locals := 12 } : Room).slots) (s₁.setTop (entryFrame mM #[(.ref a), (.long q0), (.long q1)] 5))
  refine own_fin (b := s₁.setTop (mkF mM 0 #[.val (.ref a), .val (.long q0), .second, .val (.long q1), .second] [])) (fun tT kK => castTop (own_ef_rm_trim mM a q0 q1) kK) ?_
  refine own_fin (b := s₁.setTop (mkF mM 1 #[.val (.ref a), .val (.long q0), .second, .val (.long q1), .second] [(.ref a)])) (fun tT kK => ?_) ?_
  · show Steps pP.tables eE below (s₁.setTop (mkF mM 0 #[.val (.ref a), .val (.long q0), .second, .val (.long q1), .second] [])) tT
    refine XS.aloadN X0.here hx rfl (Jvm.hb hby own_d1_0) rfl rfl ?_
    show Steps pP.tables eE below (s₁.setTop (mkF mM 1 #[.val (.ref a), .val (.long q0), .second, .val (.long q1), .second] [(.ref a)])) tT
    exact kK
  obtain ⟨T1_, X1_, e1_, st1_⟩ := initO X0 hx hZ hown (hw _ (List.mem_of_getElem? (i := 6) rfl)) (hw _ (List.mem_of_getElem? (i := 7) rfl)) (hw _ (List.mem_of_getElem? (i := 8) rfl)) e0 (g := (mkF mM 1 #[.val (.ref a), .val (.long q0), .second, .val (.long q1), .second] [(.ref a)])) rfl (by rw [hml]; rfl) rfl (Jvm.hb hby own_d1_1) (by decide) (W := 0) (by show 2 * 0 + _ ≤ _; exact Nat.le_of_eq rfl) (by decide)
  refine own_fin st1_ ?_
  show own_Fin pP eE below _ (T1_.setTop (mkF mM 4 #[.val (.ref a), .val (.long q0), .second, .val (.long q1), .second] []))
  refine own_fin (b := T1_.setTop (mkF mM 6 #[.val (.ref a), .val (.long q0), .second, .val (.long q1), .second] [(.long q0), (.ref a)])) (fun tT kK => ?_) ?_
  · show Steps pP.tables eE below (T1_.setTop (mkF mM 4 #[.val (.ref a), .val (.long q0), .second, .val (.long q1), .second] [])) tT
    refine XS.aloadN X1_.here hx rfl (Jvm.hb hby own_d1_4) rfl rfl ?_
    show Steps pP.tables eE below (T1_.setTop (mkF mM 5 #[.val (.ref a), .val (.long q0), .second, .val (.long q1), .second] [(.ref a)])) tT
    refine XS.lloadN X1_.here hx rfl (Jvm.hb hby own_d1_5) rfl ?_
    show Steps pP.tables eE below (T1_.setTop (mkF mM 6 #[.val (.ref a), .val (.long q0), .second, .val (.long q1), .second] [(.long q0), (.ref a)])) tT
    exact kK
  obtain ⟨T2_, h2_, X2_, e2_, W2_, st2_⟩ := putF X1_ hx hZ hown (host := "") (Or.inl (hw _ (List.mem_of_getElem? (i := 9) rfl))) Via.refl e1_ F0 Ea (Or.inr ⟨(hw _ (List.mem_of_getElem? (i := 10) rfl)), rfl, hnm⟩) (hw _ (List.mem_of_getElem? (i := 1) rfl)) (ty := .long) (by decide) rfl rfl (g := (mkF mM 6 #[.val (.ref a), .val (.long q0), .second, .val (.long q1), .second] [(.long q0), (.ref a)])) rfl rfl (Jvm.hb hby own_d1_6)
  have Fw2_ := F0.same W2_
  have fc3_ := Ea.wr W2_
  have fc4_ := F1.other W2_ (Or.inr (slot_ne (Or.inr (hw _ (List.mem_of_getElem? (i := 12) rfl))) (Or.inr (hw _ (List.mem_of_getElem? (i := 10) rfl))) (by decide) (t := .long) (t' := .long) (by decide) (by decide)))
  have K2_ := K0.wr W2_ (Or.inl (List.mem_of_getElem? (i := 0) rfl))
  have N2_ := Fr.snoc X2_ N0 ga
  refine own_fin st2_ ?_
  show own_Fin pP eE below _ (T2_.setTop (mkF mM 9 #[.val (.ref a), .val (.long q0), .second, .val (.long q1), .second] []))
  refine own_fin (b := T2_.setTop (mkF mM 11 #[.val (.ref a), .val (.long q0), .second, .val (.long q1), .second] [(.long q1), (.ref a)])) (fun tT kK => ?_) ?_
  · show Steps pP.tables eE below (T2_.setTop (mkF mM 9 #[.val (.ref a), .val (.long q0), .second, .val (.long q1), .second] [])) tT
    refine XS.aloadN X2_.here hx rfl (Jvm.hb hby own_d1_9) rfl rfl ?_
    show Steps pP.tables eE below (T2_.setTop (mkF mM 10 #[.val (.ref a), .val (.long q0), .second, .val (.long q1), .second] [(.ref a)])) tT
    refine XS.lloadN X2_.here hx rfl (Jvm.hb hby own_d1_10) rfl ?_
    show Steps pP.tables eE below (T2_.setTop (mkF mM 11 #[.val (.ref a), .val (.long q0), .second, .val (.long q1), .second] [(.long q1), (.ref a)])) tT
    exact kK
  obtain ⟨T5_, h5_, X5_, e5_, W5_, st5_⟩ := putF X2_ hx hZ hown (host := "") (Or.inl (hw _ (List.mem_of_getElem? (i := 11) rfl))) Via.refl e2_ fc4_ fc3_ (Or.inr ⟨(hw _ (List.mem_of_getElem? (i := 12) rfl)), rfl, hnm⟩) (hw _ (List.mem_of_getElem? (i := 1) rfl)) (ty := .long) (by decide) rfl rfl (g := (mkF mM 11 #[.val (.ref a), .val (.long q0), .second, .val (.long q1), .second] [(.long q1), (.ref a)])) rfl rfl (Jvm.hb hby own_d1_11)
  have Fw5_ := fc4_.same W5_
  have fc6_ := fc3_.wr W5_
  have fc7_ := Fw2_.other W5_ (Or.inr (slot_ne (Or.inr (hw _ (List.mem_of_getElem? (i := 10) rfl))) (Or.inr (hw _ (List.mem_of_getElem? (i := 12) rfl))) (by decide) (t := .long) (t' := .long) (by decide) (by decide)))
  have K5_ := K2_.wr W5_ (Or.inl (List.mem_of_getElem? (i := 0) rfl))
  have N5_ := Fr.snoc X5_ N2_ ga
  refine own_fin st5_ ?_
  show own_Fin pP eE below _ (T5_.setTop (mkF mM 14 #[.val (.ref a), .val (.long q0), .second, .val (.long q1), .second] []))
  obtain ⟨fs, hr, hrun, hended, hW, hsame⟩ := X5_.leave (v := none) (fun _ => rfl)
  refine ⟨_, _, ?_, hrun, hended, _, _, rfl, ?_, ⟨_, rfl⟩, hW, hsame.mono (by decide) (by decide)⟩
  · show Steps pP.tables eE below (T5_.setTop (mkF mM 14 #[.val (.ref a), .val (.long q0), .second, .val (.long q1), .second] [])) _
    exact X5_.returnOut hx Bd.returns (Jvm.hb hby own_d1_14) hr
  · show Q_rm_trim Z a q0 q1 h0 n0 _ T5_.heap _
    rw [e5_]
    exact ⟨rfl, N5_, K5_, fc6_, fc7_, Fw5_⟩
theorem own_d3_0 : decode prog_32_method_4_code 0 = .ok (.aload_n 1, 1) := by decide +kernel
theorem own_d3_1 : decode prog_32_method_4_code 1 = .ok (.instanceof 8, 3) := by decide +kernel
theorem own_d3_4 : decode prog_32_method_4_code 4 = .ok (.ifCond .eq 36, 3) := by decide +kernel
theorem own_d3_7 : decode prog_32_method_4_code 7 = .ok (.aload_n 1, 1) := by decide +kernel
theorem own_d3_8 : decode prog_32_method_4_code 8 = .ok (.checkcast 8, 3) := by decide +kernel
theorem own_d3_11 : decode prog_32_method_4_code 11 = .ok (.astore_n 2, 1) := by decide +kernel
theorem own_d3_12 : decode prog_32_method_4_code 12 = .ok (.aload_n 2, 1) := by decide +kernel
theorem own_d3_13 : decode prog_32_method_4_code 13 = .ok (.getfield 7, 3) := by decide +kernel
theorem own_d3_16 : decode prog_32_method_4_code 16 = .ok (.aload_n 0, 1) := by decide +kernel
theorem own_d3_17 : decode prog_32_method_4_code 17 = .ok (.getfield 7, 3) := by decide +kernel
theorem own_d3_20 : decode prog_32_method_4_code 20 = .ok (.lcmp, 1) := by decide +kernel
theorem own_d3_21 : decode prog_32_method_4_code 21 = .ok (.ifCond .ne 19, 3) := by decide +kernel
theorem own_d3_24 : decode prog_32_method_4_code 24 = .ok (.aload_n 2, 1) := by decide +kernel
theorem own_d3_25 : decode prog_32_method_4_code 25 = .ok (.getfield 13, 3) := by decide +kernel
theorem own_d3_28 : decode prog_32_method_4_code 28 = .ok (.aload_n 0, 1) := by decide +kernel
theorem own_d3_29 : decode prog_32_method_4_code 29 = .ok (.getfield 13, 3) := by decide +kernel
theorem own_d3_32 : decode prog_32_method_4_code 32 = .ok (.lcmp, 1) := by decide +kernel
theorem own_d3_33 : decode prog_32_method_4_code 33 = .ok (.ifCond .ne 7, 3) := by decide +kernel
theorem own_d3_36 : decode prog_32_method_4_code 36 = .ok (.iconst 1, 1) := by decide +kernel
theorem own_d3_37 : decode prog_32_method_4_code 37 = .ok (.goto 4, 3) := by decide +kernel
theorem own_d3_41 : decode prog_32_method_4_code 41 = .ok (.ireturn, 1) := by decide +kernel
theorem own_d3_40 : decode prog_32_method_4_code 40 = .ok (.iconst 0, 1) := by decide +kernel
theorem own_ef_rm_eq (mM : MethodId) (x0 : Addr) (x1 : Addr) : entryFrame mM #[(.ref x0), (.ref x1)] 3 = mkF mM 0 #[.val (.ref x0), .val (.ref x1), .unset] [] := by first | (simp [entryFrame, mkF, argsToLocals, Value.category]; done) | rfl
def Q_rm_eq (Z : State) (a : Addr) (o : Addr) (u1 : Int64) (u2 : Int64) (v1 : Int64) (v2 : Int64) (h0 : Heap) (n0 : Nat) (vV : Option Value) (hH : Heap) (lA : List Loc) : Prop := vV = some (.int (if v1 = u1 then (if v2 = u2 then (1 : Int32) else (0 : Int32)) else (0 : Int32))) ∧ Fr n0 lA ∧ (hH = h0)
set_option maxRecDepth 65536 in
set_option maxHeartbeats 40000000 in
theorem rm_eq (lL : Launch) (Z : State) (a0 : Array Value) (hw : ∀ d ∈ tables_1, d.before a0 Z = true) (ws : List Jvm.Cond) (a : Addr) (o : Addr) (u1 : Int64) (u2 : Int64) (v1 : Int64) (v2 : Int64) (h0 : Heap) (n0 : Nat) (Z0 : n0 ≤ h0.size) (Eo : Exa Z h0 o "com/example/epoch/epoch/Trimmed") (Fa1 : Fld Z h0 a "com/example/epoch/epoch/Trimmed" "floor" "J" (.long u1)) (Fa2 : Fld Z h0 a "com/example/epoch/epoch/Trimmed" "removed" "J" (.long u2)) (Fo1 : Fld Z h0 o "com/example/epoch/epoch/Trimmed" "floor" "J" (.long v1)) (Fo2 : Fld Z h0 o "com/example/epoch/epoch/Trimmed" "removed" "J" (.long v2)) :
    MetFree lL (⟨"com/example/epoch/epoch/Trimmed", "equals", "(Ljava/lang/Object;)Z"⟩ : MethodName) (head1 (Jvm.Cond.code (⟨"com/example/epoch/epoch/Trimmed", "equals", "(Ljava/lang/Object;)Z"⟩ : MethodName) prog_32_method_4_code 3 (some .boolean) :: ws) ({ frames := 0, cells := 0, slots := 0, locals := 0 } : Room)) (fun aA uU => aA = #[(.ref a), (.ref o)] ∧ Z.Warmed39 uU.vm ∧ uU.heap = h0) (fun _ _ _ _ _ => True) (fun _ uU oO uU' => ∃ vV lA, oO = .returned vV ∧ Q_rm_eq Z a o u1 u2 v1 v2 h0 n0 vV uU'.heap lA ∧ FrameEnd uU oO uU' lA ({ frames := 0, cells := 0, slots := 0, locals := 0 } : Room).cells ({ frames := 0, cells := 0, slots := 0, locals := 0 } : Room).slots) := by
  refine MetFree.of_bodySF (plainFor_of_name own_pn_com_example_epoch_epoch_Trimmed) hisR ?_
  intro pP eE sS mM args below meth cC s₁ Bd hml0 hP hK
  obtain ⟨rfl, hZ, hh⟩ := hP
  have hx := Bd.exec
  have hby := Bd.bytes
  have hml : cC.maxLocals = 3 := hml0
  have hown : sS.vm.findClass "com/example/epoch/epoch/Trimmed" = some mM.cls := findClass_of_methodNamed Bd.named
  have hnm := (name_of_methodNamed Bd.named Bd.method).1
  have X0 : Stand pP lL eE ({ frames := 0, cells := 0, slots := 0, locals := 0 } : Room) sS mM #[(.ref a), (.ref o)] below meth cC s₁ [] 0 0 := Stand.of_body Bd
  have e0 : s₁.heap = h0 := by rw [← hh, Bd.state]; rfl
  have N0 := Fr.nil n0
  have K0 := Keep.refl h0 ([] : List Addr)
  show own_Fin pP eE below (fun tT oO => ∃ vV lA, oO = .returned vV ∧ Q_rm_eq Z a o u1 u2 v1 v2 h0 n0 vV tT.heap lA ∧ FrameEnd sS oO tT lA ({ frames := 0, cells := 0, slots := 0, locals := 0 } : Room).cells ({ frames := 0, cells := 0, slots := 0, locals := 0 } : Room).slots) (s₁.setTop (entryFrame mM #[(.ref a), (.ref o)] 3))
  refine own_fin (b := s₁.setTop (mkF mM 0 #[.val (.ref a), .val (.ref o), .unset] [])) (fun tT kK => castTop (own_ef_rm_eq mM a o) kK) ?_
  refine own_fin (b := s₁.setTop (mkF mM 1 #[.val (.ref a), .val (.ref o), .unset] [(.ref o)])) (fun tT kK => ?_) ?_
  · show Steps pP.tables eE below (s₁.setTop (mkF mM 0 #[.val (.ref a), .val (.ref o), .unset] [])) tT
    refine XS.aloadN X0.here hx rfl (Jvm.hb hby own_d3_0) rfl rfl ?_
    show Steps pP.tables eE below (s₁.setTop (mkF mM 1 #[.val (.ref a), .val (.ref o), .unset] [(.ref o)])) tT
    exact kK
  obtain ⟨T1_, X1_, e1_, st1_⟩ := instY X0 hx hZ hown (hw _ (List.mem_of_getElem? (i := 18) rfl)) e0 (Ins.self Eo) (g := (mkF mM 1 #[.val (.ref a), .val (.ref o), .unset] [(.ref o)])) rfl rfl (Jvm.hb hby own_d3_1)
  refine own_fin st1_ ?_
  show own_Fin pP eE below _ (T1_.setTop (mkF mM 4 #[.val (.ref a), .val (.ref o), .unset] [(.int (1 : Int32))]))
  refine own_fin (b := T1_.setTop (mkF mM 8 #[.val (.ref a), .val (.ref o), .unset] [(.ref o)])) (fun tT kK => ?_) ?_
  · show Steps pP.tables eE below (T1_.setTop (mkF mM 4 #[.val (.ref a), .val (.ref o), .unset] [(.int (1 : Int32))])) tT
    refine XS.ifNo X1_.here hx rfl (Jvm.hb hby own_d3_4) rfl ((if0 _ _).trans (feq ((by decide) : ¬ ((1 : Int32) = (0 : Int32)))).1) ?_
    show Steps pP.tables eE below (T1_.setTop (mkF mM 7 #[.val (.ref a), .val (.ref o), .unset] [])) tT
    refine XS.aloadN X1_.here hx rfl (Jvm.hb hby own_d3_7) rfl rfl ?_
    show Steps pP.tables eE below (T1_.setTop (mkF mM 8 #[.val (.ref a), .val (.ref o), .unset] [(.ref o)])) tT
    exact kK
  obtain ⟨T2_, X2_, e2_, st2_⟩ := castY X1_ hx hZ hown (hw _ (List.mem_of_getElem? (i := 18) rfl)) e1_ (Ins.self Eo) (g := (mkF mM 8 #[.val (.ref a), .val (.ref o), .unset] [(.ref o)])) rfl rfl (Jvm.hb hby own_d3_8)
  refine own_fin st2_ ?_
  show own_Fin pP eE below _ (T2_.setTop (mkF mM 11 #[.val (.ref a), .val (.ref o), .unset] [(.ref o)]))
  refine own_fin (b := T2_.setTop (mkF mM 13 #[.val (.ref a), .val (.ref o), .val (.ref o)] [(.ref o)])) (fun tT kK => ?_) ?_
  · show Steps pP.tables eE below (T2_.setTop (mkF mM 11 #[.val (.ref a), .val (.ref o), .unset] [(.ref o)])) tT
    refine XS.astoreN X2_.here hx rfl (Jvm.hb hby own_d3_11) rfl rfl (l' := #[.val (.ref a), .val (.ref o), .val (.ref o)]) rfl ?_
    show Steps pP.tables eE below (T2_.setTop (mkF mM 12 #[.val (.ref a), .val (.ref o), .val (.ref o)] [])) tT
    refine XS.aloadN X2_.here hx rfl (Jvm.hb hby own_d3_12) rfl rfl ?_
    show Steps pP.tables eE below (T2_.setTop (mkF mM 13 #[.val (.ref a), .val (.ref o), .val (.ref o)] [(.ref o)])) tT
    exact kK
  obtain ⟨T3_, X3_, e3_, st3_⟩ := getF X2_ hx hZ hown (host := "") (Or.inl (hw _ (List.mem_of_getElem? (i := 9) rfl))) Via.refl e2_ Fo1 (g := (mkF mM 13 #[.val (.ref a), .val (.ref o), .val (.ref o)] [(.ref o)])) rfl rfl (Jvm.hb hby own_d3_13)
  refine own_fin st3_ ?_
  show own_Fin pP eE below _ (T3_.setTop (mkF mM 16 #[.val (.ref a), .val (.ref o), .val (.ref o)] [(.long v1)]))
  refine own_fin (b := T3_.setTop (mkF mM 17 #[.val (.ref a), .val (.ref o), .val (.ref o)] [(.ref a), (.long v1)])) (fun tT kK => ?_) ?_
  · show Steps pP.tables eE below (T3_.setTop (mkF mM 16 #[.val (.ref a), .val (.ref o), .val (.ref o)] [(.long v1)])) tT
    refine XS.aloadN X3_.here hx rfl (Jvm.hb hby own_d3_16) rfl rfl ?_
    show Steps pP.tables eE below (T3_.setTop (mkF mM 17 #[.val (.ref a), .val (.ref o), .val (.ref o)] [(.ref a), (.long v1)])) tT
    exact kK
  obtain ⟨T4_, X4_, e4_, st4_⟩ := getF X3_ hx hZ hown (host := "") (Or.inl (hw _ (List.mem_of_getElem? (i := 9) rfl))) Via.refl e3_ Fa1 (g := (mkF mM 17 #[.val (.ref a), .val (.ref o), .val (.ref o)] [(.ref a), (.long v1)])) rfl rfl (Jvm.hb hby own_d3_17)
  refine own_fin st4_ ?_
  show own_Fin pP eE below _ (T4_.setTop (mkF mM 20 #[.val (.ref a), .val (.ref o), .val (.ref o)] [(.long u1), (.long v1)]))
  refine own_fin (b := T4_.setTop (mkF mM 21 #[.val (.ref a), .val (.ref o), .val (.ref o)] [(.int (lcmpW v1 u1))])) (fun tT kK => ?_) ?_
  · show Steps pP.tables eE below (T4_.setTop (mkF mM 20 #[.val (.ref a), .val (.ref o), .val (.ref o)] [(.long u1), (.long v1)])) tT
    refine XS.lcmp X4_.here hx rfl (Jvm.hb hby own_d3_20) rfl ?_
    show Steps pP.tables eE below (T4_.setTop (mkF mM 21 #[.val (.ref a), .val (.ref o), .val (.ref o)] [(.int (lcmpW v1 u1))])) tT
    exact kK
  by_cases hc21_5_ : v1 = u1
  · refine own_fin (b := T4_.setTop (mkF mM 25 #[.val (.ref a), .val (.ref o), .val (.ref o)] [(.ref o)])) (fun tT kK => ?_) ?_
    · show Steps pP.tables eE below (T4_.setTop (mkF mM 21 #[.val (.ref a), .val (.ref o), .val (.ref o)] [(.int (lcmpW v1 u1))])) tT
      refine XS.ifNo X4_.here hx rfl (Jvm.hb hby own_d3_21) rfl ((if0 _ _).trans (teq ((lw_eq v1 u1).mpr (hc21_5_ : v1 = u1))).2) ?_
      show Steps pP.tables eE below (T4_.setTop (mkF mM 24 #[.val (.ref a), .val (.ref o), .val (.ref o)] [])) tT
      refine XS.aloadN X4_.here hx rfl (Jvm.hb hby own_d3_24) rfl rfl ?_
      show Steps pP.tables eE below (T4_.setTop (mkF mM 25 #[.val (.ref a), .val (.ref o), .val (.ref o)] [(.ref o)])) tT
      exact kK
    obtain ⟨T6_, X6_, e6_, st6_⟩ := getF X4_ hx hZ hown (host := "") (Or.inl (hw _ (List.mem_of_getElem? (i := 11) rfl))) Via.refl e4_ Fo2 (g := (mkF mM 25 #[.val (.ref a), .val (.ref o), .val (.ref o)] [(.ref o)])) rfl rfl (Jvm.hb hby own_d3_25)
    refine own_fin st6_ ?_
    show own_Fin pP eE below _ (T6_.setTop (mkF mM 28 #[.val (.ref a), .val (.ref o), .val (.ref o)] [(.long v2)]))
    refine own_fin (b := T6_.setTop (mkF mM 29 #[.val (.ref a), .val (.ref o), .val (.ref o)] [(.ref a), (.long v2)])) (fun tT kK => ?_) ?_
    · show Steps pP.tables eE below (T6_.setTop (mkF mM 28 #[.val (.ref a), .val (.ref o), .val (.ref o)] [(.long v2)])) tT
      refine XS.aloadN X6_.here hx rfl (Jvm.hb hby own_d3_28) rfl rfl ?_
      show Steps pP.tables eE below (T6_.setTop (mkF mM 29 #[.val (.ref a), .val (.ref o), .val (.ref o)] [(.ref a), (.long v2)])) tT
      exact kK
    obtain ⟨T7_, X7_, e7_, st7_⟩ := getF X6_ hx hZ hown (host := "") (Or.inl (hw _ (List.mem_of_getElem? (i := 11) rfl))) Via.refl e6_ Fa2 (g := (mkF mM 29 #[.val (.ref a), .val (.ref o), .val (.ref o)] [(.ref a), (.long v2)])) rfl rfl (Jvm.hb hby own_d3_29)
    refine own_fin st7_ ?_
    show own_Fin pP eE below _ (T7_.setTop (mkF mM 32 #[.val (.ref a), .val (.ref o), .val (.ref o)] [(.long u2), (.long v2)]))
    refine own_fin (b := T7_.setTop (mkF mM 33 #[.val (.ref a), .val (.ref o), .val (.ref o)] [(.int (lcmpW v2 u2))])) (fun tT kK => ?_) ?_
    · show Steps pP.tables eE below (T7_.setTop (mkF mM 32 #[.val (.ref a), .val (.ref o), .val (.ref o)] [(.long u2), (.long v2)])) tT
      refine XS.lcmp X7_.here hx rfl (Jvm.hb hby own_d3_32) rfl ?_
      show Steps pP.tables eE below (T7_.setTop (mkF mM 33 #[.val (.ref a), .val (.ref o), .val (.ref o)] [(.int (lcmpW v2 u2))])) tT
      exact kK
    by_cases hc33_8_ : v2 = u2
    · refine own_fin (b := T7_.setTop (mkF mM 41 #[.val (.ref a), .val (.ref o), .val (.ref o)] [(.int (1 : Int32))])) (fun tT kK => ?_) ?_
      · show Steps pP.tables eE below (T7_.setTop (mkF mM 33 #[.val (.ref a), .val (.ref o), .val (.ref o)] [(.int (lcmpW v2 u2))])) tT
        refine XS.ifNo X7_.here hx rfl (Jvm.hb hby own_d3_33) rfl ((if0 _ _).trans (teq ((lw_eq v2 u2).mpr (hc33_8_ : v2 = u2))).2) ?_
        show Steps pP.tables eE below (T7_.setTop (mkF mM 36 #[.val (.ref a), .val (.ref o), .val (.ref o)] [])) tT
        refine XS.iconst X7_.here hx rfl (Jvm.hb hby own_d3_36) ?_
        show Steps pP.tables eE below (T7_.setTop (mkF mM 37 #[.val (.ref a), .val (.ref o), .val (.ref o)] [(.int (1 : Int32))])) tT
        refine XS.goto X7_.here hx rfl (pc0 := 37) (pc' := 41) rfl (Jvm.hb hby own_d3_37) (by decide) (by decide) ?_
        show Steps pP.tables eE below (T7_.setTop (mkF mM 41 #[.val (.ref a), .val (.ref o), .val (.ref o)] [(.int (1 : Int32))])) tT
        exact kK
      obtain ⟨fs, hr, hrun, hended, hW, hsame⟩ := X7_.leave (v := some (.int (1 : Int32))) (fun h => by rw [Bd.returns] at h; cases h)
      refine ⟨_, _, ?_, hrun, hended, _, _, rfl, ?_, ⟨_, rfl⟩, hW, hsame.mono (by decide) (by decide)⟩
      · show Steps pP.tables eE below (T7_.setTop (mkF mM 41 #[.val (.ref a), .val (.ref o), .val (.ref o)] [(.int (1 : Int32))])) _
        exact retN X7_ hx (t := .boolean) Bd.returns (by simp) (Jvm.hb hby own_d3_41) hr
      · show Q_rm_eq Z a o u1 u2 v1 v2 h0 n0 _ T7_.heap _
        rw [e7_]
        exact ⟨by rw [if_pos hc21_5_, if_pos hc33_8_], N0, rfl⟩
    · refine own_fin (b := T7_.setTop (mkF mM 41 #[.val (.ref a), .val (.ref o), .val (.ref o)] [(.int (0 : Int32))])) (fun tT kK => ?_) ?_
      · show Steps pP.tables eE below (T7_.setTop (mkF mM 33 #[.val (.ref a), .val (.ref o), .val (.ref o)] [(.int (lcmpW v2 u2))])) tT
        refine XS.ifYes X7_.here hx rfl (pc0 := 33) (pc' := 40) rfl (Jvm.hb hby own_d3_33) rfl ((if0 _ _).trans (feq (mt (lw_eq v2 u2).mp (hc33_8_ : ¬ (v2 = u2)))).2) (by decide) (by decide) ?_
        show Steps pP.tables eE below (T7_.setTop (mkF mM 40 #[.val (.ref a), .val (.ref o), .val (.ref o)] [])) tT
        refine XS.iconst X7_.here hx rfl (Jvm.hb hby own_d3_40) ?_
        show Steps pP.tables eE below (T7_.setTop (mkF mM 41 #[.val (.ref a), .val (.ref o), .val (.ref o)] [(.int (0 : Int32))])) tT
        exact kK
      obtain ⟨fs, hr, hrun, hended, hW, hsame⟩ := X7_.leave (v := some (.int (0 : Int32))) (fun h => by rw [Bd.returns] at h; cases h)
      refine ⟨_, _, ?_, hrun, hended, _, _, rfl, ?_, ⟨_, rfl⟩, hW, hsame.mono (by decide) (by decide)⟩
      · show Steps pP.tables eE below (T7_.setTop (mkF mM 41 #[.val (.ref a), .val (.ref o), .val (.ref o)] [(.int (0 : Int32))])) _
        exact retN X7_ hx (t := .boolean) Bd.returns (by simp) (Jvm.hb hby own_d3_41) hr
      · show Q_rm_eq Z a o u1 u2 v1 v2 h0 n0 _ T7_.heap _
        rw [e7_]
        exact ⟨by rw [if_pos hc21_5_, if_neg hc33_8_], N0, rfl⟩
  · refine own_fin (b := T4_.setTop (mkF mM 41 #[.val (.ref a), .val (.ref o), .val (.ref o)] [(.int (0 : Int32))])) (fun tT kK => ?_) ?_
    · show Steps pP.tables eE below (T4_.setTop (mkF mM 21 #[.val (.ref a), .val (.ref o), .val (.ref o)] [(.int (lcmpW v1 u1))])) tT
      refine XS.ifYes X4_.here hx rfl (pc0 := 21) (pc' := 40) rfl (Jvm.hb hby own_d3_21) rfl ((if0 _ _).trans (feq (mt (lw_eq v1 u1).mp (hc21_5_ : ¬ (v1 = u1)))).2) (by decide) (by decide) ?_
      show Steps pP.tables eE below (T4_.setTop (mkF mM 40 #[.val (.ref a), .val (.ref o), .val (.ref o)] [])) tT
      refine XS.iconst X4_.here hx rfl (Jvm.hb hby own_d3_40) ?_
      show Steps pP.tables eE below (T4_.setTop (mkF mM 41 #[.val (.ref a), .val (.ref o), .val (.ref o)] [(.int (0 : Int32))])) tT
      exact kK
    obtain ⟨fs, hr, hrun, hended, hW, hsame⟩ := X4_.leave (v := some (.int (0 : Int32))) (fun h => by rw [Bd.returns] at h; cases h)
    refine ⟨_, _, ?_, hrun, hended, _, _, rfl, ?_, ⟨_, rfl⟩, hW, hsame.mono (by decide) (by decide)⟩
    · show Steps pP.tables eE below (T4_.setTop (mkF mM 41 #[.val (.ref a), .val (.ref o), .val (.ref o)] [(.int (0 : Int32))])) _
      exact retN X4_ hx (t := .boolean) Bd.returns (by simp) (Jvm.hb hby own_d3_41) hr
    · show Q_rm_eq Z a o u1 u2 v1 v2 h0 n0 _ T4_.heap _
      rw [e4_]
      exact ⟨by rw [if_neg hc21_5_], N0, rfl⟩
theorem own_ef_rm_self (mM : MethodId) (x0 : Addr) (x1 : Addr) : entryFrame mM #[(.ref x0), (.ref x1)] 3 = mkF mM 0 #[.val (.ref x0), .val (.ref x1), .unset] [] := by first | (simp [entryFrame, mkF, argsToLocals, Value.category]; done) | rfl
def Q_rm_self (Z : State) (a : Addr) (u1 : Int64) (u2 : Int64) (h0 : Heap) (n0 : Nat) (vV : Option Value) (hH : Heap) (lA : List Loc) : Prop := vV = some (.int (1 : Int32)) ∧ Fr n0 lA ∧ (hH = h0)
set_option maxRecDepth 65536 in
set_option maxHeartbeats 40000000 in
theorem rm_self (lL : Launch) (Z : State) (a0 : Array Value) (hw : ∀ d ∈ tables_1, d.before a0 Z = true) (ws : List Jvm.Cond) (a : Addr) (u1 : Int64) (u2 : Int64) (h0 : Heap) (n0 : Nat) (Z0 : n0 ≤ h0.size) (Eo : Exa Z h0 a "com/example/epoch/epoch/Trimmed") (Fa1 : Fld Z h0 a "com/example/epoch/epoch/Trimmed" "floor" "J" (.long u1)) (Fa2 : Fld Z h0 a "com/example/epoch/epoch/Trimmed" "removed" "J" (.long u2)) :
    MetFree lL (⟨"com/example/epoch/epoch/Trimmed", "equals", "(Ljava/lang/Object;)Z"⟩ : MethodName) (head1 (Jvm.Cond.code (⟨"com/example/epoch/epoch/Trimmed", "equals", "(Ljava/lang/Object;)Z"⟩ : MethodName) prog_32_method_4_code 3 (some .boolean) :: ws) ({ frames := 0, cells := 0, slots := 0, locals := 0 } : Room)) (fun aA uU => aA = #[(.ref a), (.ref a)] ∧ Z.Warmed39 uU.vm ∧ uU.heap = h0) (fun _ _ _ _ _ => True) (fun _ uU oO uU' => ∃ vV lA, oO = .returned vV ∧ Q_rm_self Z a u1 u2 h0 n0 vV uU'.heap lA ∧ FrameEnd uU oO uU' lA ({ frames := 0, cells := 0, slots := 0, locals := 0 } : Room).cells ({ frames := 0, cells := 0, slots := 0, locals := 0 } : Room).slots) := by
  refine MetFree.of_bodySF (plainFor_of_name own_pn_com_example_epoch_epoch_Trimmed) hisR ?_
  intro pP eE sS mM args below meth cC s₁ Bd hml0 hP hK
  obtain ⟨rfl, hZ, hh⟩ := hP
  have hx := Bd.exec
  have hby := Bd.bytes
  have hml : cC.maxLocals = 3 := hml0
  have hown : sS.vm.findClass "com/example/epoch/epoch/Trimmed" = some mM.cls := findClass_of_methodNamed Bd.named
  have hnm := (name_of_methodNamed Bd.named Bd.method).1
  have X0 : Stand pP lL eE ({ frames := 0, cells := 0, slots := 0, locals := 0 } : Room) sS mM #[(.ref a), (.ref a)] below meth cC s₁ [] 0 0 := Stand.of_body Bd
  have e0 : s₁.heap = h0 := by rw [← hh, Bd.state]; rfl
  have N0 := Fr.nil n0
  have K0 := Keep.refl h0 ([] : List Addr)
  show own_Fin pP eE below (fun tT oO => ∃ vV lA, oO = .returned vV ∧ Q_rm_self Z a u1 u2 h0 n0 vV tT.heap lA ∧ FrameEnd sS oO tT lA ({ frames := 0, cells := 0, slots := 0, locals := 0 } : Room).cells ({ frames := 0, cells := 0, slots := 0, locals := 0 } : Room).slots) (s₁.setTop (entryFrame mM #[(.ref a), (.ref a)] 3))
  refine own_fin (b := s₁.setTop (mkF mM 0 #[.val (.ref a), .val (.ref a), .unset] [])) (fun tT kK => castTop (own_ef_rm_self mM a a) kK) ?_
  refine own_fin (b := s₁.setTop (mkF mM 1 #[.val (.ref a), .val (.ref a), .unset] [(.ref a)])) (fun tT kK => ?_) ?_
  · show Steps pP.tables eE below (s₁.setTop (mkF mM 0 #[.val (.ref a), .val (.ref a), .unset] [])) tT
    refine XS.aloadN X0.here hx rfl (Jvm.hb hby own_d3_0) rfl rfl ?_
    show Steps pP.tables eE below (s₁.setTop (mkF mM 1 #[.val (.ref a), .val (.ref a), .unset] [(.ref a)])) tT
    exact kK
  obtain ⟨T1_, X1_, e1_, st1_⟩ := instY X0 hx hZ hown (hw _ (List.mem_of_getElem? (i := 18) rfl)) e0 (Ins.self Eo) (g := (mkF mM 1 #[.val (.ref a), .val (.ref a), .unset] [(.ref a)])) rfl rfl (Jvm.hb hby own_d3_1)
  refine own_fin st1_ ?_
  show own_Fin pP eE below _ (T1_.setTop (mkF mM 4 #[.val (.ref a), .val (.ref a), .unset] [(.int (1 : Int32))]))
  refine own_fin (b := T1_.setTop (mkF mM 8 #[.val (.ref a), .val (.ref a), .unset] [(.ref a)])) (fun tT kK => ?_) ?_
  · show Steps pP.tables eE below (T1_.setTop (mkF mM 4 #[.val (.ref a), .val (.ref a), .unset] [(.int (1 : Int32))])) tT
    refine XS.ifNo X1_.here hx rfl (Jvm.hb hby own_d3_4) rfl ((if0 _ _).trans (feq ((by decide) : ¬ ((1 : Int32) = (0 : Int32)))).1) ?_
    show Steps pP.tables eE below (T1_.setTop (mkF mM 7 #[.val (.ref a), .val (.ref a), .unset] [])) tT
    refine XS.aloadN X1_.here hx rfl (Jvm.hb hby own_d3_7) rfl rfl ?_
    show Steps pP.tables eE below (T1_.setTop (mkF mM 8 #[.val (.ref a), .val (.ref a), .unset] [(.ref a)])) tT
    exact kK
  obtain ⟨T2_, X2_, e2_, st2_⟩ := castY X1_ hx hZ hown (hw _ (List.mem_of_getElem? (i := 18) rfl)) e1_ (Ins.self Eo) (g := (mkF mM 8 #[.val (.ref a), .val (.ref a), .unset] [(.ref a)])) rfl rfl (Jvm.hb hby own_d3_8)
  refine own_fin st2_ ?_
  show own_Fin pP eE below _ (T2_.setTop (mkF mM 11 #[.val (.ref a), .val (.ref a), .unset] [(.ref a)]))
  refine own_fin (b := T2_.setTop (mkF mM 13 #[.val (.ref a), .val (.ref a), .val (.ref a)] [(.ref a)])) (fun tT kK => ?_) ?_
  · show Steps pP.tables eE below (T2_.setTop (mkF mM 11 #[.val (.ref a), .val (.ref a), .unset] [(.ref a)])) tT
    refine XS.astoreN X2_.here hx rfl (Jvm.hb hby own_d3_11) rfl rfl (l' := #[.val (.ref a), .val (.ref a), .val (.ref a)]) rfl ?_
    show Steps pP.tables eE below (T2_.setTop (mkF mM 12 #[.val (.ref a), .val (.ref a), .val (.ref a)] [])) tT
    refine XS.aloadN X2_.here hx rfl (Jvm.hb hby own_d3_12) rfl rfl ?_
    show Steps pP.tables eE below (T2_.setTop (mkF mM 13 #[.val (.ref a), .val (.ref a), .val (.ref a)] [(.ref a)])) tT
    exact kK
  obtain ⟨T3_, X3_, e3_, st3_⟩ := getF X2_ hx hZ hown (host := "") (Or.inl (hw _ (List.mem_of_getElem? (i := 9) rfl))) Via.refl e2_ Fa1 (g := (mkF mM 13 #[.val (.ref a), .val (.ref a), .val (.ref a)] [(.ref a)])) rfl rfl (Jvm.hb hby own_d3_13)
  refine own_fin st3_ ?_
  show own_Fin pP eE below _ (T3_.setTop (mkF mM 16 #[.val (.ref a), .val (.ref a), .val (.ref a)] [(.long u1)]))
  refine own_fin (b := T3_.setTop (mkF mM 17 #[.val (.ref a), .val (.ref a), .val (.ref a)] [(.ref a), (.long u1)])) (fun tT kK => ?_) ?_
  · show Steps pP.tables eE below (T3_.setTop (mkF mM 16 #[.val (.ref a), .val (.ref a), .val (.ref a)] [(.long u1)])) tT
    refine XS.aloadN X3_.here hx rfl (Jvm.hb hby own_d3_16) rfl rfl ?_
    show Steps pP.tables eE below (T3_.setTop (mkF mM 17 #[.val (.ref a), .val (.ref a), .val (.ref a)] [(.ref a), (.long u1)])) tT
    exact kK
  obtain ⟨T4_, X4_, e4_, st4_⟩ := getF X3_ hx hZ hown (host := "") (Or.inl (hw _ (List.mem_of_getElem? (i := 9) rfl))) Via.refl e3_ Fa1 (g := (mkF mM 17 #[.val (.ref a), .val (.ref a), .val (.ref a)] [(.ref a), (.long u1)])) rfl rfl (Jvm.hb hby own_d3_17)
  refine own_fin st4_ ?_
  show own_Fin pP eE below _ (T4_.setTop (mkF mM 20 #[.val (.ref a), .val (.ref a), .val (.ref a)] [(.long u1), (.long u1)]))
  refine own_fin (b := T4_.setTop (mkF mM 25 #[.val (.ref a), .val (.ref a), .val (.ref a)] [(.ref a)])) (fun tT kK => ?_) ?_
  · show Steps pP.tables eE below (T4_.setTop (mkF mM 20 #[.val (.ref a), .val (.ref a), .val (.ref a)] [(.long u1), (.long u1)])) tT
    refine XS.lcmp X4_.here hx rfl (Jvm.hb hby own_d3_20) rfl ?_
    show Steps pP.tables eE below (T4_.setTop (mkF mM 21 #[.val (.ref a), .val (.ref a), .val (.ref a)] [(.int (lcmpW u1 u1))])) tT
    refine XS.ifNo X4_.here hx rfl (Jvm.hb hby own_d3_21) rfl ((if0 _ _).trans (teq ((lw_eq u1 u1).mpr (rfl : u1 = u1))).2) ?_
    show Steps pP.tables eE below (T4_.setTop (mkF mM 24 #[.val (.ref a), .val (.ref a), .val (.ref a)] [])) tT
    refine XS.aloadN X4_.here hx rfl (Jvm.hb hby own_d3_24) rfl rfl ?_
    show Steps pP.tables eE below (T4_.setTop (mkF mM 25 #[.val (.ref a), .val (.ref a), .val (.ref a)] [(.ref a)])) tT
    exact kK
  obtain ⟨T5_, X5_, e5_, st5_⟩ := getF X4_ hx hZ hown (host := "") (Or.inl (hw _ (List.mem_of_getElem? (i := 11) rfl))) Via.refl e4_ Fa2 (g := (mkF mM 25 #[.val (.ref a), .val (.ref a), .val (.ref a)] [(.ref a)])) rfl rfl (Jvm.hb hby own_d3_25)
  refine own_fin st5_ ?_
  show own_Fin pP eE below _ (T5_.setTop (mkF mM 28 #[.val (.ref a), .val (.ref a), .val (.ref a)] [(.long u2)]))
  refine own_fin (b := T5_.setTop (mkF mM 29 #[.val (.ref a), .val (.ref a), .val (.ref a)] [(.ref a), (.long u2)])) (fun tT kK => ?_) ?_
  · show Steps pP.tables eE below (T5_.setTop (mkF mM 28 #[.val (.ref a), .val (.ref a), .val (.ref a)] [(.long u2)])) tT
    refine XS.aloadN X5_.here hx rfl (Jvm.hb hby own_d3_28) rfl rfl ?_
    show Steps pP.tables eE below (T5_.setTop (mkF mM 29 #[.val (.ref a), .val (.ref a), .val (.ref a)] [(.ref a), (.long u2)])) tT
    exact kK
  obtain ⟨T6_, X6_, e6_, st6_⟩ := getF X5_ hx hZ hown (host := "") (Or.inl (hw _ (List.mem_of_getElem? (i := 11) rfl))) Via.refl e5_ Fa2 (g := (mkF mM 29 #[.val (.ref a), .val (.ref a), .val (.ref a)] [(.ref a), (.long u2)])) rfl rfl (Jvm.hb hby own_d3_29)
  refine own_fin st6_ ?_
  show own_Fin pP eE below _ (T6_.setTop (mkF mM 32 #[.val (.ref a), .val (.ref a), .val (.ref a)] [(.long u2), (.long u2)]))
  refine own_fin (b := T6_.setTop (mkF mM 41 #[.val (.ref a), .val (.ref a), .val (.ref a)] [(.int (1 : Int32))])) (fun tT kK => ?_) ?_
  · show Steps pP.tables eE below (T6_.setTop (mkF mM 32 #[.val (.ref a), .val (.ref a), .val (.ref a)] [(.long u2), (.long u2)])) tT
    refine XS.lcmp X6_.here hx rfl (Jvm.hb hby own_d3_32) rfl ?_
    show Steps pP.tables eE below (T6_.setTop (mkF mM 33 #[.val (.ref a), .val (.ref a), .val (.ref a)] [(.int (lcmpW u2 u2))])) tT
    refine XS.ifNo X6_.here hx rfl (Jvm.hb hby own_d3_33) rfl ((if0 _ _).trans (teq ((lw_eq u2 u2).mpr (rfl : u2 = u2))).2) ?_
    show Steps pP.tables eE below (T6_.setTop (mkF mM 36 #[.val (.ref a), .val (.ref a), .val (.ref a)] [])) tT
    refine XS.iconst X6_.here hx rfl (Jvm.hb hby own_d3_36) ?_
    show Steps pP.tables eE below (T6_.setTop (mkF mM 37 #[.val (.ref a), .val (.ref a), .val (.ref a)] [(.int (1 : Int32))])) tT
    refine XS.goto X6_.here hx rfl (pc0 := 37) (pc' := 41) rfl (Jvm.hb hby own_d3_37) (by decide) (by decide) ?_
    show Steps pP.tables eE below (T6_.setTop (mkF mM 41 #[.val (.ref a), .val (.ref a), .val (.ref a)] [(.int (1 : Int32))])) tT
    exact kK
  obtain ⟨fs, hr, hrun, hended, hW, hsame⟩ := X6_.leave (v := some (.int (1 : Int32))) (fun h => by rw [Bd.returns] at h; cases h)
  refine ⟨_, _, ?_, hrun, hended, _, _, rfl, ?_, ⟨_, rfl⟩, hW, hsame.mono (by decide) (by decide)⟩
  · show Steps pP.tables eE below (T6_.setTop (mkF mM 41 #[.val (.ref a), .val (.ref a), .val (.ref a)] [(.int (1 : Int32))])) _
    exact retN X6_ hx (t := .boolean) Bd.returns (by simp) (Jvm.hb hby own_d3_41) hr
  · show Q_rm_self Z a u1 u2 h0 n0 _ T6_.heap _
    rw [e6_]
    exact ⟨rfl, N0, rfl⟩
theorem own_ef_rm_null (mM : MethodId) (x0 : Addr) : entryFrame mM #[(.ref x0), .null] 3 = mkF mM 0 #[.val (.ref x0), .val .null, .unset] [] := by first | (simp [entryFrame, mkF, argsToLocals, Value.category]; done) | rfl
def Q_rm_null (Z : State) (a : Addr) (h0 : Heap) (n0 : Nat) (vV : Option Value) (hH : Heap) (lA : List Loc) : Prop := vV = some (.int (0 : Int32)) ∧ Fr n0 lA ∧ (hH = h0)
set_option maxRecDepth 65536 in
set_option maxHeartbeats 40000000 in
theorem rm_null (lL : Launch) (Z : State) (a0 : Array Value) (hw : ∀ d ∈ tables_1, d.before a0 Z = true) (ws : List Jvm.Cond) (a : Addr) (h0 : Heap) (n0 : Nat) (Z0 : n0 ≤ h0.size) :
    MetFree lL (⟨"com/example/epoch/epoch/Trimmed", "equals", "(Ljava/lang/Object;)Z"⟩ : MethodName) (head1 (Jvm.Cond.code (⟨"com/example/epoch/epoch/Trimmed", "equals", "(Ljava/lang/Object;)Z"⟩ : MethodName) prog_32_method_4_code 3 (some .boolean) :: ws) ({ frames := 0, cells := 0, slots := 0, locals := 0 } : Room)) (fun aA uU => aA = #[(.ref a), .null] ∧ Z.Warmed39 uU.vm ∧ uU.heap = h0) (fun _ _ _ _ _ => True) (fun _ uU oO uU' => ∃ vV lA, oO = .returned vV ∧ Q_rm_null Z a h0 n0 vV uU'.heap lA ∧ FrameEnd uU oO uU' lA ({ frames := 0, cells := 0, slots := 0, locals := 0 } : Room).cells ({ frames := 0, cells := 0, slots := 0, locals := 0 } : Room).slots) := by
  refine MetFree.of_bodySF (plainFor_of_name own_pn_com_example_epoch_epoch_Trimmed) hisR ?_
  intro pP eE sS mM args below meth cC s₁ Bd hml0 hP hK
  obtain ⟨rfl, hZ, hh⟩ := hP
  have hx := Bd.exec
  have hby := Bd.bytes
  have hml : cC.maxLocals = 3 := hml0
  have hown : sS.vm.findClass "com/example/epoch/epoch/Trimmed" = some mM.cls := findClass_of_methodNamed Bd.named
  have hnm := (name_of_methodNamed Bd.named Bd.method).1
  have X0 : Stand pP lL eE ({ frames := 0, cells := 0, slots := 0, locals := 0 } : Room) sS mM #[(.ref a), .null] below meth cC s₁ [] 0 0 := Stand.of_body Bd
  have e0 : s₁.heap = h0 := by rw [← hh, Bd.state]; rfl
  have N0 := Fr.nil n0
  have K0 := Keep.refl h0 ([] : List Addr)
  show own_Fin pP eE below (fun tT oO => ∃ vV lA, oO = .returned vV ∧ Q_rm_null Z a h0 n0 vV tT.heap lA ∧ FrameEnd sS oO tT lA ({ frames := 0, cells := 0, slots := 0, locals := 0 } : Room).cells ({ frames := 0, cells := 0, slots := 0, locals := 0 } : Room).slots) (s₁.setTop (entryFrame mM #[(.ref a), .null] 3))
  refine own_fin (b := s₁.setTop (mkF mM 0 #[.val (.ref a), .val .null, .unset] [])) (fun tT kK => castTop (own_ef_rm_null mM a) kK) ?_
  refine own_fin (b := s₁.setTop (mkF mM 1 #[.val (.ref a), .val .null, .unset] [.null])) (fun tT kK => ?_) ?_
  · show Steps pP.tables eE below (s₁.setTop (mkF mM 0 #[.val (.ref a), .val .null, .unset] [])) tT
    refine XS.aloadN X0.here hx rfl (Jvm.hb hby own_d3_0) rfl rfl ?_
    show Steps pP.tables eE below (s₁.setTop (mkF mM 1 #[.val (.ref a), .val .null, .unset] [.null])) tT
    exact kK
  refine own_fin (b := s₁.setTop (mkF mM 41 #[.val (.ref a), .val .null, .unset] [(.int (0 : Int32))])) (fun tT kK => ?_) ?_
  · show Steps pP.tables eE below (s₁.setTop (mkF mM 1 #[.val (.ref a), .val .null, .unset] [.null])) tT
    refine X0.instanceofNull hx (g := (mkF mM 1 #[.val (.ref a), .val .null, .unset] [.null])) rfl rfl (Jvm.hb hby own_d3_1) _ ?_
    show Steps pP.tables eE below (s₁.setTop (mkF mM 4 #[.val (.ref a), .val .null, .unset] [(.int (0 : Int32))])) tT
    refine XS.ifYes X0.here hx rfl (pc0 := 4) (pc' := 40) rfl (Jvm.hb hby own_d3_4) rfl ((if0 _ _).trans (teq ((by decide) : (0 : Int32) = (0 : Int32))).1) (by decide) (by decide) ?_
    show Steps pP.tables eE below (s₁.setTop (mkF mM 40 #[.val (.ref a), .val .null, .unset] [])) tT
    refine XS.iconst X0.here hx rfl (Jvm.hb hby own_d3_40) ?_
    show Steps pP.tables eE below (s₁.setTop (mkF mM 41 #[.val (.ref a), .val .null, .unset] [(.int (0 : Int32))])) tT
    exact kK
  obtain ⟨fs, hr, hrun, hended, hW, hsame⟩ := X0.leave (v := some (.int (0 : Int32))) (fun h => by rw [Bd.returns] at h; cases h)
  refine ⟨_, _, ?_, hrun, hended, _, _, rfl, ?_, ⟨_, rfl⟩, hW, hsame.mono (by decide) (by decide)⟩
  · show Steps pP.tables eE below (s₁.setTop (mkF mM 41 #[.val (.ref a), .val .null, .unset] [(.int (0 : Int32))])) _
    exact retN X0 hx (t := .boolean) Bd.returns (by simp) (Jvm.hb hby own_d3_41) hr
  · show Q_rm_null Z a h0 n0 _ s₁.heap _
    rw [e0]
    exact ⟨rfl, N0, rfl⟩
theorem own_d6_0 : decode jdk_18_method_1_code 0 = .ok (.aload_n 0, 1) := by decide +kernel
theorem own_d6_1 : decode jdk_18_method_1_code 1 = .ok (.invokespecial 1, 3) := by decide +kernel
theorem own_d6_4 : decode jdk_18_method_1_code 4 = .ok (.return_, 1) := by decide +kernel
theorem own_pn_java_lang_Number : plainName "java/lang/Number" = true := by first | (simp [plainName, overriddenIn]; done) | decide +kernel
theorem own_ef_rm_num (mM : MethodId) (x0 : Addr) : entryFrame mM #[(.ref x0)] 1 = mkF mM 0 #[.val (.ref x0)] [] := by first | (simp [entryFrame, mkF, argsToLocals, Value.category]; done) | rfl
def Q_rm_num (Z : State) (a : Addr) (h0 : Heap) (n0 : Nat) (vV : Option Value) (hH : Heap) (lA : List Loc) : Prop := vV = none ∧ Fr n0 lA ∧ (hH = h0)
set_option maxRecDepth 65536 in
set_option maxHeartbeats 40000000 in
theorem rm_num (lL : Launch) (Z : State) (a0 : Array Value) (hw : ∀ d ∈ tables_1, d.before a0 Z = true) (ws : List Jvm.Cond) (a : Addr) (h0 : Heap) (n0 : Nat) (Z0 : n0 ≤ h0.size) :
    MetFree lL (⟨"java/lang/Number", "<init>", "()V"⟩ : MethodName) (head1 (Jvm.Cond.code (⟨"java/lang/Number", "<init>", "()V"⟩ : MethodName) jdk_18_method_1_code 1 none :: ws) ({ frames := 1, cells := 0, slots := 0, locals := 12 } : Room)) (fun aA uU => aA = #[(.ref a)] ∧ Z.Warmed39 uU.vm ∧ uU.heap = h0) (fun _ _ _ _ _ => True) (fun _ uU oO uU' => ∃ vV lA, oO = .returned vV ∧ Q_rm_num Z a h0 n0 vV uU'.heap lA ∧ FrameEnd uU oO uU' lA ({ frames := 1, cells := 0, slots := 0, locals := 12 } : Room).cells ({ frames := 1, cells := 0, slots := 0, locals := 12 } : Room).slots) := by
  refine MetFree.of_bodySF (plainFor_of_name own_pn_java_lang_Number) hisR ?_
  intro pP eE sS mM args below meth cC s₁ Bd hml0 hP hK
  obtain ⟨rfl, hZ, hh⟩ := hP
  have hx := Bd.exec
  have hby := Bd.bytes
  have hml : cC.maxLocals = 1 := hml0
  have hown : sS.vm.findClass "java/lang/Number" = some mM.cls := findClass_of_methodNamed Bd.named
  have hnm := (name_of_methodNamed Bd.named Bd.method).1
  have X0 : Stand pP lL eE ({ frames := 1, cells := 0, slots := 0, locals := 12 } : Room) sS mM #[(.ref a)] below meth cC s₁ [] 0 0 := Stand.of_body Bd
  have e0 : s₁.heap = h0 := by rw [← hh, Bd.state]; rfl
  have N0 := Fr.nil n0
  have K0 := Keep.refl h0 ([] : List Addr)
  show own_Fin pP eE below (fun tT oO => ∃ vV lA, oO = .returned vV ∧ Q_rm_num Z a h0 n0 vV tT.heap lA ∧ FrameEnd sS oO tT lA ({ frames := 1, cells := 0, slots := 0, locals := 12 } : Room).cells ({ frames := 1, cells := 0, slots := 0, locals := 12 } : Room).slots) (s₁.setTop (entryFrame mM #[(.ref a)] 1))
  refine own_fin (b := s₁.setTop (mkF mM 0 #[.val (.ref a)] [])) (fun tT kK => castTop (own_ef_rm_num mM a) kK) ?_
  refine own_fin (b := s₁.setTop (mkF mM 1 #[.val (.ref a)] [(.ref a)])) (fun tT kK => ?_) ?_
  · show Steps pP.tables eE below (s₁.setTop (mkF mM 0 #[.val (.ref a)] [])) tT
    refine XS.aloadN X0.here hx rfl (Jvm.hb hby own_d6_0) rfl rfl ?_
    show Steps pP.tables eE below (s₁.setTop (mkF mM 1 #[.val (.ref a)] [(.ref a)])) tT
    exact kK
  obtain ⟨T1_, X1_, e1_, st1_⟩ := initO X0 hx hZ hown (hw _ (List.mem_of_getElem? (i := 38) rfl)) (hw _ (List.mem_of_getElem? (i := 7) rfl)) (hw _ (List.mem_of_getElem? (i := 8) rfl)) e0 (g := (mkF mM 1 #[.val (.ref a)] [(.ref a)])) rfl (by rw [hml]; rfl) rfl (Jvm.hb hby own_d6_1) (by decide) (W := 0) (by show 2 * 0 + _ ≤ _; exact Nat.le_of_eq rfl) (by decide)
  refine own_fin st1_ ?_
  show own_Fin pP eE below _ (T1_.setTop (mkF mM 4 #[.val (.ref a)] []))
  obtain ⟨fs, hr, hrun, hended, hW, hsame⟩ := X1_.leave (v := none) (fun _ => rfl)
  refine ⟨_, _, ?_, hrun, hended, _, _, rfl, ?_, ⟨_, rfl⟩, hW, hsame.mono (by decide) (by decide)⟩
  · show Steps pP.tables eE below (T1_.setTop (mkF mM 4 #[.val (.ref a)] [])) _
    exact X1_.returnOut hx Bd.returns (Jvm.hb hby own_d6_4) hr
  · show Q_rm_num Z a h0 n0 _ T1_.heap _
    rw [e1_]
    exact ⟨rfl, N0, rfl⟩
theorem own_d5_0 : decode jdk_35_method_26_code 0 = .ok (.aload_n 0, 1) := by decide +kernel
theorem own_d5_1 : decode jdk_35_method_26_code 1 = .ok (.invokespecial 270, 3) := by decide +kernel
theorem own_pd0 : parseMethodDescriptor "()V" = some ⟨[], none⟩ := by decide +kernel
theorem own_d5_4 : decode jdk_35_method_26_code 4 = .ok (.aload_n 0, 1) := by decide +kernel
theorem own_d5_5 : decode jdk_35_method_26_code 5 = .ok (.lload_n 1, 1) := by decide +kernel
theorem own_d5_6 : decode jdk_35_method_26_code 6 = .ok (.putfield 273, 3) := by decide +kernel
theorem own_d5_9 : decode jdk_35_method_26_code 9 = .ok (.return_, 1) := by decide +kernel
theorem own_pn_java_lang_Long : plainName "java/lang/Long" = true := by first | (simp [plainName, overriddenIn]; done) | decide +kernel
theorem own_ef_rm_linit (mM : MethodId) (x0 : Addr) (x1 : Int64) : entryFrame mM #[(.ref x0), (.long x1)] 3 = mkF mM 0 #[.val (.ref x0), .val (.long x1), .second] [] := by first | (simp [entryFrame, mkF, argsToLocals, Value.category]; done) | rfl
def Q_rm_linit (Z : State) (a : Addr) (q : Int64) (h0 : Heap) (n0 : Nat) (vV : Option Value) (hH : Heap) (lA : List Loc) : Prop := vV = none ∧ Fr n0 lA ∧ (Keep h0 hH [a]) ∧ (Exa Z hH a "java/lang/Long")
set_option maxRecDepth 65536 in
set_option maxHeartbeats 40000000 in
theorem rm_linit (lL : Launch) (Z : State) (a0 : Array Value) (hw : ∀ d ∈ tables_1, d.before a0 Z = true) (ws : List Jvm.Cond) (a : Addr) (q : Int64) (h0 : Heap) (n0 : Nat) (Z0 : n0 ≤ h0.size) (Ea : Exa Z h0 a "java/lang/Long") (Fa : Fld Z h0 a "java/lang/Long" "value" "J" (.long (0 : Int64))) (ga : n0 ≤ a) :
    MetFree lL (⟨"java/lang/Long", "<init>", "(J)V"⟩ : MethodName) (head1 (Jvm.Cond.code (⟨"java/lang/Long", "<init>", "(J)V"⟩ : MethodName) jdk_35_method_26_code 3 none :: ws) ({ frames := 2, cells := 0, slots := 0, locals := 24 } : Room)) (fun aA uU => aA = #[(.ref a), (.long q)] ∧ Z.Warmed39 uU.vm ∧ uU.heap = h0) (fun _ _ _ _ _ => True) (fun _ uU oO uU' => ∃ vV lA, oO = .returned vV ∧ Q_rm_linit Z a q h0 n0 vV uU'.heap lA ∧ FrameEnd uU oO uU' lA ({ frames := 2, cells := 0, slots := 0, locals := 24 } : Room).cells ({ frames := 2, cells := 0, slots := 0, locals := 24 } : Room).slots) := by
  refine MetFree.of_bodySF (plainFor_of_name own_pn_java_lang_Long) hisR ?_
  intro pP eE sS mM args below meth cC s₁ Bd hml0 hP hK
  obtain ⟨rfl, hZ, hh⟩ := hP
  have hx := Bd.exec
  have hby := Bd.bytes
  have hml : cC.maxLocals = 3 := hml0
  have hown : sS.vm.findClass "java/lang/Long" = some mM.cls := findClass_of_methodNamed Bd.named
  have hnm := (name_of_methodNamed Bd.named Bd.method).1
  have X0 : Stand pP lL eE ({ frames := 2, cells := 0, slots := 0, locals := 24 } : Room) sS mM #[(.ref a), (.long q)] below meth cC s₁ [] 0 0 := Stand.of_body Bd
  have e0 : s₁.heap = h0 := by rw [← hh, Bd.state]; rfl
  have N0 := Fr.nil n0
  have K0 := Keep.refl h0 [a]
  show own_Fin pP eE below (fun tT oO => ∃ vV lA, oO = .returned vV ∧ Q_rm_linit Z a q h0 n0 vV tT.heap lA ∧ FrameEnd sS oO tT lA ({ frames := 2, cells := 0, slots := 0, locals := 24 } : Room).cells ({ frames := 2, cells := 0, slots := 0, locals := 24 } : Room).slots) (s₁.setTop (entryFrame mM #[(.ref a), (.long q)] 3))
  refine own_fin (b := s₁.setTop (mkF mM 0 #[.val (.ref a), .val (.long q), .second] [])) (fun tT kK => castTop (own_ef_rm_linit mM a q) kK) ?_
  refine own_fin (b := s₁.setTop (mkF mM 1 #[.val (.ref a), .val (.long q), .second] [(.ref a)])) (fun tT kK => ?_) ?_
  · show Steps pP.tables eE below (s₁.setTop (mkF mM 0 #[.val (.ref a), .val (.long q), .second] [])) tT
    refine XS.aloadN X0.here hx rfl (Jvm.hb hby own_d5_0) rfl rfl ?_
    show Steps pP.tables eE below (s₁.setTop (mkF mM 1 #[.val (.ref a), .val (.long q), .second] [(.ref a)])) tT
    exact kK
  obtain ⟨_, _, ⟨T1_, L1_, k1_, n1_⟩, -, X1_, ⟨Lc1_, hQ1_, l1_, y1_, z1_⟩, st1_⟩ := X0.specialBack hx (y := (⟨"java/lang/Number", "<init>", "()V"⟩ : MethodName)) rfl hown (mvT hZ (hw _ (List.mem_of_getElem? (i := 32) rfl))) (mvT hZ (hw _ (List.mem_of_getElem? (i := 33) rfl))) (mvT hZ (hw _ (List.mem_of_getElem? (i := 37) rfl))) (by decide) (backOf (W := 0) (rm_num lL Z a0 hw [] a h0 n0 (Nat.le_trans Z0 K0.1) ) hZ (hw _ (List.mem_of_getElem? (i := 37) rfl)) (hw _ (List.mem_of_getElem? (i := 36) rfl)) (by decide) (by decide)) (g := (mkF mM 1 #[.val (.ref a), .val (.long q), .second] [(.ref a)])) rfl (by rw [hml]; rfl) (Steps.refl _) (a := a) (argsL := []) (rest := []) (lenOf own_pd0 rfl) rfl (by show 2 * 0 + _ ≤ _; exact Nat.le_of_eq rfl) (Jvm.hb hby own_d5_1) (fun _ _ => ⟨rfl, e0, (by decide : 0 + 0 ≤ _), (by decide : 0 + 0 ≤ _)⟩)
  dsimp only [Pt.U, Pt.locs, Pt.cells, Pt.slots] at X1_ l1_ y1_ z1_ st1_ hQ1_
  subst l1_ y1_ z1_
  obtain ⟨rfl, N1_q, p1__0⟩ := hQ1_
  have N1_ := Fr.app N0 N1_q
  refine own_fin (fun tT kK => st1_.trans kK) ?_
  show own_Fin pP eE below _ (T1_.setTop (mkF mM 4 #[.val (.ref a), .val (.long q), .second] []))
  refine own_fin (b := T1_.setTop (mkF mM 6 #[.val (.ref a), .val (.long q), .second] [(.long q), (.ref a)])) (fun tT kK => ?_) ?_
  · show Steps pP.tables eE below (T1_.setTop (mkF mM 4 #[.val (.ref a), .val (.long q), .second] [])) tT
    refine XS.aloadN X1_.here hx rfl (Jvm.hb hby own_d5_4) rfl rfl ?_
    show Steps pP.tables eE below (T1_.setTop (mkF mM 5 #[.val (.ref a), .val (.long q), .second] [(.ref a)])) tT
    refine XS.lloadN X1_.here hx rfl (Jvm.hb hby own_d5_5) rfl ?_
    show Steps pP.tables eE below (T1_.setTop (mkF mM 6 #[.val (.ref a), .val (.long q), .second] [(.long q), (.ref a)])) tT
    exact kK
  obtain ⟨T2_, h2_, X2_, e2_, W2_, st2_⟩ := putF X1_ hx hZ hown (host := "") (Or.inl (hw _ (List.mem_of_getElem? (i := 39) rfl))) Via.refl p1__0 Fa Ea (Or.inr ⟨(hw _ (List.mem_of_getElem? (i := 40) rfl)), rfl, hnm⟩) (hw _ (List.mem_of_getElem? (i := 27) rfl)) (ty := .long) (by decide) rfl rfl (g := (mkF mM 6 #[.val (.ref a), .val (.long q), .second] [(.long q), (.ref a)])) rfl rfl (Jvm.hb hby own_d5_6)
  have Fw2_ := Fa.same W2_
  have fc3_ := Ea.wr W2_
  have K2_ := K0.wr W2_ (Or.inl (List.mem_of_getElem? (i := 0) rfl))
  have N2_ := Fr.snoc X2_ N1_ ga
  refine own_fin st2_ ?_
  show own_Fin pP eE below _ (T2_.setTop (mkF mM 9 #[.val (.ref a), .val (.long q), .second] []))
  obtain ⟨fs, hr, hrun, hended, hW, hsame⟩ := X2_.leave (v := none) (fun _ => rfl)
  refine ⟨_, _, ?_, hrun, hended, _, _, rfl, ?_, ⟨_, rfl⟩, hW, hsame.mono (by decide) (by decide)⟩
  · show Steps pP.tables eE below (T2_.setTop (mkF mM 9 #[.val (.ref a), .val (.long q), .second] [])) _
    exact X2_.returnOut hx Bd.returns (Jvm.hb hby own_d5_9) hr
  · show Q_rm_linit Z a q h0 n0 _ T2_.heap _
    rw [e2_]
    exact ⟨rfl, N2_, K2_, fc3_⟩
theorem own_d4_0 : decode jdk_35_method_24_code 0 = .ok (.sipush 128, 3) := by decide +kernel
theorem own_d4_3 : decode jdk_35_method_24_code 3 = .ok (.istore_n 2, 1) := by decide +kernel
theorem own_d4_4 : decode jdk_35_method_24_code 4 = .ok (.lload_n 0, 1) := by decide +kernel
theorem own_d4_5 : decode jdk_35_method_24_code 5 = .ok (.ldc2_w 230, 3) := by decide +kernel
theorem own_d4_8 : decode jdk_35_method_24_code 8 = .ok (.lcmp, 1) := by decide +kernel
theorem own_d4_9 : decode jdk_35_method_24_code 9 = .ok (.ifCond .lt 22, 3) := by decide +kernel
theorem own_d4_31 : decode jdk_35_method_24_code 31 = .ok (.new 1, 3) := by decide +kernel
theorem own_d4_34 : decode jdk_35_method_24_code 34 = .ok (.dup, 1) := by decide +kernel
theorem own_d4_35 : decode jdk_35_method_24_code 35 = .ok (.lload_n 0, 1) := by decide +kernel
theorem own_d4_36 : decode jdk_35_method_24_code 36 = .ok (.invokespecial 240, 3) := by decide +kernel
theorem own_pd1 : parseMethodDescriptor "(J)V" = some ⟨[.long], none⟩ := by decide +kernel
theorem own_d4_39 : decode jdk_35_method_24_code 39 = .ok (.areturn, 1) := by decide +kernel
theorem own_d4_12 : decode jdk_35_method_24_code 12 = .ok (.lload_n 0, 1) := by decide +kernel
theorem own_d4_13 : decode jdk_35_method_24_code 13 = .ok (.ldc2_w 232, 3) := by decide +kernel
theorem own_d4_16 : decode jdk_35_method_24_code 16 = .ok (.lcmp, 1) := by decide +kernel
theorem own_d4_17 : decode jdk_35_method_24_code 17 = .ok (.ifCond .gt 14, 3) := by decide +kernel
theorem own_d4_20 : decode jdk_35_method_24_code 20 = .ok (.getstatic 234, 3) := by decide +kernel
theorem own_d4_23 : decode jdk_35_method_24_code 23 = .ok (.lload_n 0, 1) := by decide +kernel
theorem own_d4_24 : decode jdk_35_method_24_code 24 = .ok (.l2i, 1) := by decide +kernel
theorem own_d4_25 : decode jdk_35_method_24_code 25 = .ok (.sipush 128, 3) := by decide +kernel
theorem own_d4_28 : decode jdk_35_method_24_code 28 = .ok (.iadd, 1) := by decide +kernel
theorem own_d4_29 : decode jdk_35_method_24_code 29 = .ok (.aaload, 1) := by decide +kernel
theorem own_d4_30 : decode jdk_35_method_24_code 30 = .ok (.areturn, 1) := by decide +kernel
theorem own_ef_rm_lval (mM : MethodId) (x0 : Int64) : entryFrame mM #[(.long x0)] 3 = mkF mM 0 #[.val (.long x0), .second, .unset] [] := by first | (simp [entryFrame, mkF, argsToLocals, Value.category]; done) | rfl
def Q_rm_lval (Z : State) (q : Int64) (ca : Addr) (cc : Cell) (h0 : Heap) (n0 : Nat) (vV : Option Value) (hH : Heap) (lA : List Loc) : Prop := ∃ b : Addr, vV = some (.ref b) ∧ Fr n0 lA ∧ (Keep h0 hH []) ∧ (Exa Z hH b "java/lang/Long")
set_option maxRecDepth 65536 in
set_option maxHeartbeats 40000000 in
theorem rm_lval (lL : Launch) (Z : State) (a0 : Array Value) (hw : ∀ d ∈ tables_1, d.before a0 Z = true) (ws : List Jvm.Cond) (q : Int64) (ca : Addr) (cc : Cell) (h0 : Heap) (n0 : Nat) (Z0 : n0 ≤ h0.size) (Oa : Old Z n0 h0) (Ca : own_Cache Z ca cc) (Sa : Sta Z Z.heap "java/lang/Long$LongCache" "cache" "[Ljava/lang/Long;" (.ref ca)) :
    MetFree lL (⟨"java/lang/Long", "valueOf", "(J)Ljava/lang/Long;"⟩ : MethodName) (head1 (Jvm.Cond.code (⟨"java/lang/Long", "valueOf", "(J)Ljava/lang/Long;"⟩ : MethodName) jdk_35_method_24_code 3 (some (.object "java/lang/Long")) :: ws) ({ frames := 3, cells := 1, slots := 1, locals := 39 } : Room)) (fun aA uU => aA = #[(.long q)] ∧ Z.Warmed39 uU.vm ∧ uU.heap = h0) (fun _ _ _ _ _ => True) (fun _ uU oO uU' => ∃ vV lA, oO = .returned vV ∧ Q_rm_lval Z q ca cc h0 n0 vV uU'.heap lA ∧ FrameEnd uU oO uU' lA ({ frames := 3, cells := 1, slots := 1, locals := 39 } : Room).cells ({ frames := 3, cells := 1, slots := 1, locals := 39 } : Room).slots) := by
  refine MetFree.of_bodySF (plainFor_of_name own_pn_java_lang_Long) hisR ?_
  intro pP eE sS mM args below meth cC s₁ Bd hml0 hP hK
  obtain ⟨rfl, hZ, hh⟩ := hP
  have hx := Bd.exec
  have hby := Bd.bytes
  have hml : cC.maxLocals = 3 := hml0
  have hown : sS.vm.findClass "java/lang/Long" = some mM.cls := findClass_of_methodNamed Bd.named
  have hnm := (name_of_methodNamed Bd.named Bd.method).1
  have X0 : Stand pP lL eE ({ frames := 3, cells := 1, slots := 1, locals := 39 } : Room) sS mM #[(.long q)] below meth cC s₁ [] 0 0 := Stand.of_body Bd
  have e0 : s₁.heap = h0 := by rw [← hh, Bd.state]; rfl
  have N0 := Fr.nil n0
  have K0 := Keep.refl h0 ([] : List Addr)
  show own_Fin pP eE below (fun tT oO => ∃ vV lA, oO = .returned vV ∧ Q_rm_lval Z q ca cc h0 n0 vV tT.heap lA ∧ FrameEnd sS oO tT lA ({ frames := 3, cells := 1, slots := 1, locals := 39 } : Room).cells ({ frames := 3, cells := 1, slots := 1, locals := 39 } : Room).slots) (s₁.setTop (entryFrame mM #[(.long q)] 3))
  refine own_fin (b := s₁.setTop (mkF mM 0 #[.val (.long q), .second, .unset] [])) (fun tT kK => castTop (own_ef_rm_lval mM q) kK) ?_
  have Sx := own_StaKeep Oa Sa
  refine own_fin (b := s₁.setTop (mkF mM 9 #[.val (.long q), .second, .val (.int (128 : Int32))] [(.int (lcmpW q (-128 : Int64)))])) (fun tT kK => ?_) ?_
  · show Steps pP.tables eE below (s₁.setTop (mkF mM 0 #[.val (.long q), .second, .unset] [])) tT
    refine XS.sipush X0.here hx rfl (Jvm.hb hby own_d4_0) ?_
    show Steps pP.tables eE below (s₁.setTop (mkF mM 3 #[.val (.long q), .second, .unset] [(.int (128 : Int32))])) tT
    refine XS.istoreN X0.here hx rfl (Jvm.hb hby own_d4_3) rfl (l' := #[.val (.long q), .second, .val (.int (128 : Int32))]) rfl ?_
    show Steps pP.tables eE below (s₁.setTop (mkF mM 4 #[.val (.long q), .second, .val (.int (128 : Int32))] [])) tT
    refine XS.lloadN X0.here hx rfl (Jvm.hb hby own_d4_4) rfl ?_
    show Steps pP.tables eE below (s₁.setTop (mkF mM 5 #[.val (.long q), .second, .val (.int (128 : Int32))] [(.long q)])) tT
    refine X0.ldc2Long hx hown (mvT hZ (hw _ (List.mem_of_getElem? (i := 24) rfl))) (g := (mkF mM 5 #[.val (.long q), .second, .val (.int (128 : Int32))] [(.long q)])) rfl (Jvm.hb hby own_d4_5) _ ?_
    show Steps pP.tables eE below (s₁.setTop (mkF mM 8 #[.val (.long q), .second, .val (.int (128 : Int32))] [(.long (-128 : Int64)), (.long q)])) tT
    refine XS.lcmp X0.here hx rfl (Jvm.hb hby own_d4_8) rfl ?_
    show Steps pP.tables eE below (s₁.setTop (mkF mM 9 #[.val (.long q), .second, .val (.int (128 : Int32))] [(.int (lcmpW q (-128 : Int64)))])) tT
    exact kK
  by_cases hc9_1_ : q < (-128 : Int64)
  · refine own_fin (b := s₁.setTop (mkF mM 31 #[.val (.long q), .second, .val (.int (128 : Int32))] [])) (fun tT kK => ?_) ?_
    · show Steps pP.tables eE below (s₁.setTop (mkF mM 9 #[.val (.long q), .second, .val (.int (128 : Int32))] [(.int (lcmpW q (-128 : Int64)))])) tT
      refine XS.ifYes X0.here hx rfl (pc0 := 9) (pc' := 31) rfl (Jvm.hb hby own_d4_9) rfl ((if0 _ _).trans (tlt ((lw_lt q (-128 : Int64)).mpr (hc9_1_ : q < (-128 : Int64)))).1) (by decide) (by decide) ?_
      show Steps pP.tables eE below (s₁.setTop (mkF mM 31 #[.val (.long q), .second, .val (.int (128 : Int32))] [])) tT
      exact kK
    obtain ⟨T2_, h2_, X2_, e2_, E2_, A2_, D2_, -, st2_⟩ := newO X0 hx hZ hown (hw _ (List.mem_of_getElem? (i := 26) rfl)) (hw _ (List.mem_of_getElem? (i := 27) rfl)) (hw _ (List.mem_of_getElem? (i := 22) rfl)) e0 (g := (mkF mM 31 #[.val (.long q), .second, .val (.int (128 : Int32))] [])) rfl (Jvm.hb hby own_d4_31) (by decide) (by decide)
    obtain ⟨b2_, g2_⟩ : ∃ z, z = h0.size := ⟨_, rfl⟩
    rw [← g2_] at A2_ D2_ st2_
    have sz_b2_ : h0.size ≤ b2_ := Nat.le_trans K0.1 (Nat.le_of_eq g2_.symm)
    have ge_b2_ : n0 ≤ b2_ := Nat.le_trans Z0 sz_b2_
    have fc3_ := Oa.ext E2_
    have fc4_ := Sx.ext E2_
    have K2_ := K0.ext E2_
    have F2__value : Fld Z h2_ b2_ "java/lang/Long" "value" "J" (.long (0 : Int64)) := D2_ (Or.inr (hw _ (List.mem_of_getElem? (i := 40) rfl))) (ty := .long) (by decide)
    refine own_fin st2_ ?_
    show own_Fin pP eE below _ (T2_.setTop (mkF mM 34 #[.val (.long q), .second, .val (.int (128 : Int32))] [(.ref b2_)]))
    refine own_fin (b := T2_.setTop (mkF mM 36 #[.val (.long q), .second, .val (.int (128 : Int32))] [(.long q), (.ref b2_), (.ref b2_)])) (fun tT kK => ?_) ?_
    · show Steps pP.tables eE below (T2_.setTop (mkF mM 34 #[.val (.long q), .second, .val (.int (128 : Int32))] [(.ref b2_)])) tT
      refine XS.dup X2_.here hx rfl (Jvm.hb hby own_d4_34) rfl rfl ?_
      show Steps pP.tables eE below (T2_.setTop (mkF mM 35 #[.val (.long q), .second, .val (.int (128 : Int32))] [(.ref b2_), (.ref b2_)])) tT
      refine XS.lloadN X2_.here hx rfl (Jvm.hb hby own_d4_35) rfl ?_
      show Steps pP.tables eE below (T2_.setTop (mkF mM 36 #[.val (.long q), .second, .val (.int (128 : Int32))] [(.long q), (.ref b2_), (.ref b2_)])) tT
      exact kK
    obtain ⟨_, _, ⟨T5_, L5_, k5_, n5_⟩, -, X5_, ⟨Lc5_, hQ5_, l5_, y5_, z5_⟩, st5_⟩ := X2_.specialBack hx (y := (⟨"java/lang/Long", "<init>", "(J)V"⟩ : MethodName)) rfl hown (mvT hZ (hw _ (List.mem_of_getElem? (i := 28) rfl))) (mvT hZ (hw _ (List.mem_of_getElem? (i := 29) rfl))) (mvT hZ (hw _ (List.mem_of_getElem? (i := 31) rfl))) (by decide) (backOf (W := 1) (rm_linit lL Z a0 hw [] b2_ q h2_ n0 (Nat.le_trans Z0 K2_.1) A2_ F2__value ge_b2_) hZ (hw _ (List.mem_of_getElem? (i := 31) rfl)) (hw _ (List.mem_of_getElem? (i := 22) rfl)) (by decide) (by decide)) (g := (mkF mM 36 #[.val (.long q), .second, .val (.int (128 : Int32))] [(.long q), (.ref b2_), (.ref b2_)])) rfl (by rw [hml]; rfl) (Steps.refl _) (a := b2_) (argsL := [(.long q)]) (rest := [(.ref b2_)]) (lenOf own_pd1 rfl) rfl (by show 2 * 0 + _ ≤ _; exact Nat.le_of_eq rfl) (Jvm.hb hby own_d4_36) (fun _ _ => ⟨rfl, e2_, (by decide : 1 + 0 ≤ _), (by decide : 1 + 0 ≤ _)⟩)
    dsimp only [Pt.U, Pt.locs, Pt.cells, Pt.slots] at X5_ l5_ y5_ z5_ st5_ hQ5_
    subst l5_ y5_ z5_
    obtain ⟨rfl, N5_q, p5__0, p5__1⟩ := hQ5_
    have N5_ := Fr.app N0 N5_q
    have fc6_ := fc3_.keep p5__0 (allS ge_b2_ all0)
    have fc7_ := A2_.keep p5__0
    have K5_ := K2_.trans p5__0 (allS (Or.inr sz_b2_) all0)
    refine own_fin (fun tT kK => st5_.trans kK) ?_
    show own_Fin pP eE below _ (T5_.setTop (mkF mM 39 #[.val (.long q), .second, .val (.int (128 : Int32))] [(.ref b2_)]))
    obtain ⟨fs, hr, hrun, hended, hW, hsame⟩ := X5_.leave (v := some (.ref b2_)) (fun h => by rw [Bd.returns] at h; cases h)
    refine ⟨_, _, ?_, hrun, hended, _, _, rfl, ?_, ⟨_, rfl⟩, hW, hsame.mono (by decide) (by decide)⟩
    · show Steps pP.tables eE below (T5_.setTop (mkF mM 39 #[.val (.long q), .second, .val (.int (128 : Int32))] [(.ref b2_)])) _
      exact retOut X5_ hx Bd.returns rfl (Or.inr (Or.inr (Or.inr (Or.inr ⟨rfl, rfl, rfl⟩)))) (Jvm.hb hby own_d4_39) hr
    · show Q_rm_lval Z q ca cc h0 n0 _ T5_.heap _
      exact ⟨b2_, rfl, N5_, K5_, p5__1⟩
  · refine own_fin (b := s₁.setTop (mkF mM 17 #[.val (.long q), .second, .val (.int (128 : Int32))] [(.int (lcmpW q (127 : Int64)))])) (fun tT kK => ?_) ?_
    · show Steps pP.tables eE below (s₁.setTop (mkF mM 9 #[.val (.long q), .second, .val (.int (128 : Int32))] [(.int (lcmpW q (-128 : Int64)))])) tT
      refine XS.ifNo X0.here hx rfl (Jvm.hb hby own_d4_9) rfl ((if0 _ _).trans (flt (mt (lw_lt q (-128 : Int64)).mp (hc9_1_ : ¬ (q < (-128 : Int64))))).1) ?_
      show Steps pP.tables eE below (s₁.setTop (mkF mM 12 #[.val (.long q), .second, .val (.int (128 : Int32))] [])) tT
      refine XS.lloadN X0.here hx rfl (Jvm.hb hby own_d4_12) rfl ?_
      show Steps pP.tables eE below (s₁.setTop (mkF mM 13 #[.val (.long q), .second, .val (.int (128 : Int32))] [(.long q)])) tT
      refine X0.ldc2Long hx hown (mvT hZ (hw _ (List.mem_of_getElem? (i := 25) rfl))) (g := (mkF mM 13 #[.val (.long q), .second, .val (.int (128 : Int32))] [(.long q)])) rfl (Jvm.hb hby own_d4_13) _ ?_
      show Steps pP.tables eE below (s₁.setTop (mkF mM 16 #[.val (.long q), .second, .val (.int (128 : Int32))] [(.long (127 : Int64)), (.long q)])) tT
      refine XS.lcmp X0.here hx rfl (Jvm.hb hby own_d4_16) rfl ?_
      show Steps pP.tables eE below (s₁.setTop (mkF mM 17 #[.val (.long q), .second, .val (.int (128 : Int32))] [(.int (lcmpW q (127 : Int64)))])) tT
      exact kK
    by_cases hc17_8_ : (127 : Int64) < q
    · refine own_fin (b := s₁.setTop (mkF mM 31 #[.val (.long q), .second, .val (.int (128 : Int32))] [])) (fun tT kK => ?_) ?_
      · show Steps pP.tables eE below (s₁.setTop (mkF mM 17 #[.val (.long q), .second, .val (.int (128 : Int32))] [(.int (lcmpW q (127 : Int64)))])) tT
        refine XS.ifYes X0.here hx rfl (pc0 := 17) (pc' := 31) rfl (Jvm.hb hby own_d4_17) rfl ((if0 _ _).trans (tlt ((lw_gt q (127 : Int64)).mpr (hc17_8_ : (127 : Int64) < q))).2.2.1) (by decide) (by decide) ?_
        show Steps pP.tables eE below (s₁.setTop (mkF mM 31 #[.val (.long q), .second, .val (.int (128 : Int32))] [])) tT
        exact kK
      obtain ⟨T9_, h9_, X9_, e9_, E9_, A9_, D9_, -, st9_⟩ := newO X0 hx hZ hown (hw _ (List.mem_of_getElem? (i := 26) rfl)) (hw _ (List.mem_of_getElem? (i := 27) rfl)) (hw _ (List.mem_of_getElem? (i := 22) rfl)) e0 (g := (mkF mM 31 #[.val (.long q), .second, .val (.int (128 : Int32))] [])) rfl (Jvm.hb hby own_d4_31) (by decide) (by decide)
      obtain ⟨b9_, g9_⟩ : ∃ z, z = h0.size := ⟨_, rfl⟩
      rw [← g9_] at A9_ D9_ st9_
      have sz_b9_ : h0.size ≤ b9_ := Nat.le_trans K0.1 (Nat.le_of_eq g9_.symm)
      have ge_b9_ : n0 ≤ b9_ := Nat.le_trans Z0 sz_b9_
      have fc10_ := Oa.ext E9_
      have fc11_ := Sx.ext E9_
      have K9_ := K0.ext E9_
      have F9__value : Fld Z h9_ b9_ "java/lang/Long" "value" "J" (.long (0 : Int64)) := D9_ (Or.inr (hw _ (List.mem_of_getElem? (i := 40) rfl))) (ty := .long) (by decide)
      refine own_fin st9_ ?_
      show own_Fin pP eE below _ (T9_.setTop (mkF mM 34 #[.val (.long q), .second, .val (.int (128 : Int32))] [(.ref b9_)]))
      refine own_fin (b := T9_.setTop (mkF mM 36 #[.val (.long q), .second, .val (.int (128 : Int32))] [(.long q), (.ref b9_), (.ref b9_)])) (fun tT kK => ?_) ?_
      · show Steps pP.tables eE below (T9_.setTop (mkF mM 34 #[.val (.long q), .second, .val (.int (128 : Int32))] [(.ref b9_)])) tT
        refine XS.dup X9_.here hx rfl (Jvm.hb hby own_d4_34) rfl rfl ?_
        show Steps pP.tables eE below (T9_.setTop (mkF mM 35 #[.val (.long q), .second, .val (.int (128 : Int32))] [(.ref b9_), (.ref b9_)])) tT
        refine XS.lloadN X9_.here hx rfl (Jvm.hb hby own_d4_35) rfl ?_
        show Steps pP.tables eE below (T9_.setTop (mkF mM 36 #[.val (.long q), .second, .val (.int (128 : Int32))] [(.long q), (.ref b9_), (.ref b9_)])) tT
        exact kK
      obtain ⟨_, _, ⟨T12_, L12_, k12_, n12_⟩, -, X12_, ⟨Lc12_, hQ12_, l12_, y12_, z12_⟩, st12_⟩ := X9_.specialBack hx (y := (⟨"java/lang/Long", "<init>", "(J)V"⟩ : MethodName)) rfl hown (mvT hZ (hw _ (List.mem_of_getElem? (i := 28) rfl))) (mvT hZ (hw _ (List.mem_of_getElem? (i := 29) rfl))) (mvT hZ (hw _ (List.mem_of_getElem? (i := 31) rfl))) (by decide) (backOf (W := 1) (rm_linit lL Z a0 hw [] b9_ q h9_ n0 (Nat.le_trans Z0 K9_.1) A9_ F9__value ge_b9_) hZ (hw _ (List.mem_of_getElem? (i := 31) rfl)) (hw _ (List.mem_of_getElem? (i := 22) rfl)) (by decide) (by decide)) (g := (mkF mM 36 #[.val (.long q), .second, .val (.int (128 : Int32))] [(.long q), (.ref b9_), (.ref b9_)])) rfl (by rw [hml]; rfl) (Steps.refl _) (a := b9_) (argsL := [(.long q)]) (rest := [(.ref b9_)]) (lenOf own_pd1 rfl) rfl (by show 2 * 0 + _ ≤ _; exact Nat.le_of_eq rfl) (Jvm.hb hby own_d4_36) (fun _ _ => ⟨rfl, e9_, (by decide : 1 + 0 ≤ _), (by decide : 1 + 0 ≤ _)⟩)
      dsimp only [Pt.U, Pt.locs, Pt.cells, Pt.slots] at X12_ l12_ y12_ z12_ st12_ hQ12_
      subst l12_ y12_ z12_
      obtain ⟨rfl, N12_q, p12__0, p12__1⟩ := hQ12_
      have N12_ := Fr.app N0 N12_q
      have fc13_ := fc10_.keep p12__0 (allS ge_b9_ all0)
      have fc14_ := A9_.keep p12__0
      have K12_ := K9_.trans p12__0 (allS (Or.inr sz_b9_) all0)
      refine own_fin (fun tT kK => st12_.trans kK) ?_
      show own_Fin pP eE below _ (T12_.setTop (mkF mM 39 #[.val (.long q), .second, .val (.int (128 : Int32))] [(.ref b9_)]))
      obtain ⟨fs, hr, hrun, hended, hW, hsame⟩ := X12_.leave (v := some (.ref b9_)) (fun h => by rw [Bd.returns] at h; cases h)
      refine ⟨_, _, ?_, hrun, hended, _, _, rfl, ?_, ⟨_, rfl⟩, hW, hsame.mono (by decide) (by decide)⟩
      · show Steps pP.tables eE below (T12_.setTop (mkF mM 39 #[.val (.long q), .second, .val (.int (128 : Int32))] [(.ref b9_)])) _
        exact retOut X12_ hx Bd.returns rfl (Or.inr (Or.inr (Or.inr (Or.inr ⟨rfl, rfl, rfl⟩)))) (Jvm.hb hby own_d4_39) hr
      · show Q_rm_lval Z q ca cc h0 n0 _ T12_.heap _
        exact ⟨b9_, rfl, N12_, K12_, p12__1⟩
    · refine own_fin (b := s₁.setTop (mkF mM 20 #[.val (.long q), .second, .val (.int (128 : Int32))] [])) (fun tT kK => ?_) ?_
      · show Steps pP.tables eE below (s₁.setTop (mkF mM 17 #[.val (.long q), .second, .val (.int (128 : Int32))] [(.int (lcmpW q (127 : Int64)))])) tT
        refine XS.ifNo X0.here hx rfl (Jvm.hb hby own_d4_17) rfl ((if0 _ _).trans (flt (mt (lw_gt q (127 : Int64)).mp (hc17_8_ : ¬ ((127 : Int64) < q)))).2.2.1) ?_
        show Steps pP.tables eE below (s₁.setTop (mkF mM 20 #[.val (.long q), .second, .val (.int (128 : Int32))] [])) tT
        exact kK
      obtain ⟨T15_, X15_, e15_, st15_⟩ := getS2 X0 hx hZ hown (host := "") (Or.inl (hw _ (List.mem_of_getElem? (i := 44) rfl))) Via.refl e0 Sx (g := (mkF mM 20 #[.val (.long q), .second, .val (.int (128 : Int32))] [])) rfl (Jvm.hb hby own_d4_20)
      refine own_fin st15_ ?_
      show own_Fin pP eE below _ (T15_.setTop (mkF mM 23 #[.val (.long q), .second, .val (.int (128 : Int32))] [(.ref ca)]))
      refine own_fin (b := T15_.setTop (mkF mM 29 #[.val (.long q), .second, .val (.int (128 : Int32))] [(.int ((q.toInt32) + (128 : Int32))), (.ref ca)])) (fun tT kK => ?_) ?_
      · show Steps pP.tables eE below (T15_.setTop (mkF mM 23 #[.val (.long q), .second, .val (.int (128 : Int32))] [(.ref ca)])) tT
        refine XS.lloadN X15_.here hx rfl (Jvm.hb hby own_d4_23) rfl ?_
        show Steps pP.tables eE below (T15_.setTop (mkF mM 24 #[.val (.long q), .second, .val (.int (128 : Int32))] [(.long q), (.ref ca)])) tT
        refine XS.l2i X15_.here hx rfl (Jvm.hb hby own_d4_24) rfl ?_
        show Steps pP.tables eE below (T15_.setTop (mkF mM 25 #[.val (.long q), .second, .val (.int (128 : Int32))] [(.int (q.toInt32)), (.ref ca)])) tT
        refine XS.sipush X15_.here hx rfl (Jvm.hb hby own_d4_25) ?_
        show Steps pP.tables eE below (T15_.setTop (mkF mM 28 #[.val (.long q), .second, .val (.int (128 : Int32))] [(.int (128 : Int32)), (.int (q.toInt32)), (.ref ca)])) tT
        refine XS.iadd X15_.here hx rfl (Jvm.hb hby own_d4_28) rfl ?_
        show Steps pP.tables eE below (T15_.setTop (mkF mM 29 #[.val (.long q), .second, .val (.int (128 : Int32))] [(.int ((q.toInt32) + (128 : Int32))), (.ref ca)])) tT
        exact kK
      obtain ⟨Ax, Az, Ae⟩ := Ca
      have hin := (Jvm.Free.LongBox.place_okL q hc9_1_ hc17_8_).1
      rw [← Az] at hin
      obtain ⟨bx, hat, Ex⟩ := Ae _ hin
      have Ax' := Ax.ext Oa.2
      have Ex' := Ex.ext Oa.2
      refine own_fin (b := T15_.setTop (mkF mM 30 #[.val (.long q), .second, .val (.int (128 : Int32))] [(.ref bx)])) (fun tT kK => ?_) ?_
      · show Steps pP.tables eE below (T15_.setTop (mkF mM 29 #[.val (.long q), .second, .val (.int (128 : Int32))] [(.int ((q.toInt32) + (128 : Int32))), (.ref ca)])) tT
        refine X15_.aaload hx (j := ((q.toInt32) + (128 : Int32))) (v := (.ref bx)) (own_rw e15_ Ax'.1) (State.isArrayOf_alike hZ.alike Ax'.2.1) rfl Ax'.2.2 hin hat (g := (mkF mM 29 #[.val (.long q), .second, .val (.int (128 : Int32))] [(.int ((q.toInt32) + (128 : Int32))), (.ref ca)])) rfl rfl (Jvm.hb hby own_d4_29) _ ?_
        show Steps pP.tables eE below (T15_.setTop (mkF mM 30 #[.val (.long q), .second, .val (.int (128 : Int32))] [(.ref bx)])) tT
        exact kK
      obtain ⟨fs, hr, hrun, hended, hW, hsame⟩ := X15_.leave (v := some (.ref bx)) (fun h => by rw [Bd.returns] at h; cases h)
      refine ⟨_, _, ?_, hrun, hended, _, _, rfl, ?_, ⟨_, rfl⟩, hW, hsame.mono (by decide) (by decide)⟩
      · show Steps pP.tables eE below (T15_.setTop (mkF mM 30 #[.val (.long q), .second, .val (.int (128 : Int32))] [(.ref bx)])) _
        exact retOut X15_ hx Bd.returns rfl (Or.inr (Or.inr (Or.inr (Or.inr ⟨rfl, rfl, rfl⟩)))) (Jvm.hb hby own_d4_30) hr
      · show Q_rm_lval Z q ca cc h0 n0 _ T15_.heap _
        rw [e15_]
        exact ⟨bx, rfl, N0, K0, Ex'⟩
theorem own_ef_rm_no (mM : MethodId) (x0 : Addr) (x1 : Addr) : entryFrame mM #[(.ref x0), (.ref x1)] 3 = mkF mM 0 #[.val (.ref x0), .val (.ref x1), .unset] [] := by first | (simp [entryFrame, mkF, argsToLocals, Value.category]; done) | rfl
def Q_rm_no (Z : State) (a : Addr) (o : Addr) (h0 : Heap) (n0 : Nat) (vV : Option Value) (hH : Heap) (lA : List Loc) : Prop := vV = some (.int (0 : Int32)) ∧ Fr n0 lA ∧ (hH = h0)
set_option maxRecDepth 65536 in
set_option maxHeartbeats 40000000 in
theorem rm_no (lL : Launch) (Z : State) (a0 : Array Value) (hw : ∀ d ∈ tables_1, d.before a0 Z = true) (ws : List Jvm.Cond) (a : Addr) (o : Addr) (h0 : Heap) (n0 : Nat) (Z0 : n0 ≤ h0.size) (Eo : Exa Z h0 o "java/lang/Long") :
    MetFree lL (⟨"com/example/epoch/epoch/Trimmed", "equals", "(Ljava/lang/Object;)Z"⟩ : MethodName) (head1 (Jvm.Cond.code (⟨"com/example/epoch/epoch/Trimmed", "equals", "(Ljava/lang/Object;)Z"⟩ : MethodName) prog_32_method_4_code 3 (some .boolean) :: ws) ({ frames := 0, cells := 0, slots := 0, locals := 0 } : Room)) (fun aA uU => aA = #[(.ref a), (.ref o)] ∧ Z.Warmed39 uU.vm ∧ uU.heap = h0) (fun _ _ _ _ _ => True) (fun _ uU oO uU' => ∃ vV lA, oO = .returned vV ∧ Q_rm_no Z a o h0 n0 vV uU'.heap lA ∧ FrameEnd uU oO uU' lA ({ frames := 0, cells := 0, slots := 0, locals := 0 } : Room).cells ({ frames := 0, cells := 0, slots := 0, locals := 0 } : Room).slots) := by
  refine MetFree.of_bodySF (plainFor_of_name own_pn_com_example_epoch_epoch_Trimmed) hisR ?_
  intro pP eE sS mM args below meth cC s₁ Bd hml0 hP hK
  obtain ⟨rfl, hZ, hh⟩ := hP
  have hx := Bd.exec
  have hby := Bd.bytes
  have hml : cC.maxLocals = 3 := hml0
  have hown : sS.vm.findClass "com/example/epoch/epoch/Trimmed" = some mM.cls := findClass_of_methodNamed Bd.named
  have hnm := (name_of_methodNamed Bd.named Bd.method).1
  have X0 : Stand pP lL eE ({ frames := 0, cells := 0, slots := 0, locals := 0 } : Room) sS mM #[(.ref a), (.ref o)] below meth cC s₁ [] 0 0 := Stand.of_body Bd
  have e0 : s₁.heap = h0 := by rw [← hh, Bd.state]; rfl
  have N0 := Fr.nil n0
  have K0 := Keep.refl h0 ([] : List Addr)
  show own_Fin pP eE below (fun tT oO => ∃ vV lA, oO = .returned vV ∧ Q_rm_no Z a o h0 n0 vV tT.heap lA ∧ FrameEnd sS oO tT lA ({ frames := 0, cells := 0, slots := 0, locals := 0 } : Room).cells ({ frames := 0, cells := 0, slots := 0, locals := 0 } : Room).slots) (s₁.setTop (entryFrame mM #[(.ref a), (.ref o)] 3))
  refine own_fin (b := s₁.setTop (mkF mM 0 #[.val (.ref a), .val (.ref o), .unset] [])) (fun tT kK => castTop (own_ef_rm_no mM a o) kK) ?_
  refine own_fin (b := s₁.setTop (mkF mM 1 #[.val (.ref a), .val (.ref o), .unset] [(.ref o)])) (fun tT kK => ?_) ?_
  · show Steps pP.tables eE below (s₁.setTop (mkF mM 0 #[.val (.ref a), .val (.ref o), .unset] [])) tT
    refine XS.aloadN X0.here hx rfl (Jvm.hb hby own_d3_0) rfl rfl ?_
    show Steps pP.tables eE below (s₁.setTop (mkF mM 1 #[.val (.ref a), .val (.ref o), .unset] [(.ref o)])) tT
    exact kK
  obtain ⟨T1_, X1_, e1_, st1_⟩ := instNo X0 hx hZ hown (hw _ (List.mem_of_getElem? (i := 18) rfl)) e0 Eo (own_NSno (hw _ (List.mem_of_getElem? (i := 41) rfl)) (hw _ (List.mem_of_getElem? (i := 1) rfl)) (NS.step (hw _ (List.mem_of_getElem? (i := 41) rfl)) (NS.step (hw _ (List.mem_of_getElem? (i := 42) rfl)) (own_NSroot (hw _ (List.mem_of_getElem? (i := 43) rfl)) (hw _ (List.mem_of_getElem? (i := 1) rfl)) (by decide)) (by decide)) (by decide)) (by decide)) (g := (mkF mM 1 #[.val (.ref a), .val (.ref o), .unset] [(.ref o)])) rfl rfl (Jvm.hb hby own_d3_1)
  refine own_fin st1_ ?_
  show own_Fin pP eE below _ (T1_.setTop (mkF mM 4 #[.val (.ref a), .val (.ref o), .unset] [(.int (0 : Int32))]))
  refine own_fin (b := T1_.setTop (mkF mM 41 #[.val (.ref a), .val (.ref o), .unset] [(.int (0 : Int32))])) (fun tT kK => ?_) ?_
  · show Steps pP.tables eE below (T1_.setTop (mkF mM 4 #[.val (.ref a), .val (.ref o), .unset] [(.int (0 : Int32))])) tT
    refine XS.ifYes X1_.here hx rfl (pc0 := 4) (pc' := 40) rfl (Jvm.hb hby own_d3_4) rfl ((if0 _ _).trans (teq ((by decide) : (0 : Int32) = (0 : Int32))).1) (by decide) (by decide) ?_
    show Steps pP.tables eE below (T1_.setTop (mkF mM 40 #[.val (.ref a), .val (.ref o), .unset] [])) tT
    refine XS.iconst X1_.here hx rfl (Jvm.hb hby own_d3_40) ?_
    show Steps pP.tables eE below (T1_.setTop (mkF mM 41 #[.val (.ref a), .val (.ref o), .unset] [(.int (0 : Int32))])) tT
    exact kK
  obtain ⟨fs, hr, hrun, hended, hW, hsame⟩ := X1_.leave (v := some (.int (0 : Int32))) (fun h => by rw [Bd.returns] at h; cases h)
  refine ⟨_, _, ?_, hrun, hended, _, _, rfl, ?_, ⟨_, rfl⟩, hW, hsame.mono (by decide) (by decide)⟩
  · show Steps pP.tables eE below (T1_.setTop (mkF mM 41 #[.val (.ref a), .val (.ref o), .unset] [(.int (0 : Int32))])) _
    exact retN X1_ hx (t := .boolean) Bd.returns (by simp) (Jvm.hb hby own_d3_41) hr
  · show Q_rm_no Z a o h0 n0 _ T1_.heap _
    rw [e1_]
    exact ⟨rfl, N0, rfl⟩
theorem own_pd2 : parseMethodDescriptor "(JJ)V" = some ⟨[.long, .long], none⟩ := by decide +kernel
theorem own_pd3 : parseMethodDescriptor "(Ljava/lang/Object;)Z" = some ⟨[(.object "java/lang/Object")], some .boolean⟩ := by decide +kernel
theorem own_pd4 : parseMethodDescriptor "(J)Ljava/lang/Long;" = some ⟨[.long], some (.object "java/lang/Long")⟩ := by decide +kernel
theorem own_pn_com_example_epoch_epoch_TrimmedEqualsPinLaw : plainName "com/example/epoch/epoch/TrimmedEqualsPinLaw" = true := by first | (simp [plainName, overriddenIn]; done) | decide +kernel
theorem own_ef_rm0 (mM : MethodId) (x0 : Int64) (x1 : Int64) (x2 : Int64) (x3 : Int64) (x4 : Int32) : entryFrame mM #[(.long x0), (.long x1), (.long x2), (.long x3), (.int x4)] maxLocals = mkF mM 0 #[.val (.long x0), .second, .val (.long x1), .second, .val (.long x2), .second, .val (.long x3), .second, .val (.int x4), .unset, .unset, .unset, .unset, .unset, .unset, .unset, .unset] [] := by first | (simp [entryFrame, mkF, argsToLocals, Value.category, maxLocals]; done) | rfl
def Q_rm0 (Z : State) (q1 : Int64) (q2 : Int64) (q3 : Int64) (q4 : Int64) (p5 : Int32) (ca : Addr) (cc : Cell) (h0 : Heap) (n0 : Nat) (vV : Option Value) (hH : Heap) (lA : List Loc) : Prop := vV = some (.int (1 : Int32)) ∧ Fr n0 lA
set_option maxRecDepth 65536 in
set_option maxHeartbeats 40000000 in
theorem rm0 (lL : Launch) (Z : State) (a0 : Array Value) (hw : ∀ d ∈ tables_1, d.before a0 Z = true) (ws : List Jvm.Cond) (q1 : Int64) (q2 : Int64) (q3 : Int64) (q4 : Int64) (p5 : Int32) (ca : Addr) (cc : Cell) (h0 : Heap) (n0 : Nat) (Z0 : n0 ≤ h0.size) (Oa : Old Z n0 h0) (Ca : own_Cache Z ca cc) (Sa : Sta Z Z.heap "java/lang/Long$LongCache" "cache" "[Ljava/lang/Long;" (.ref ca)) :
    MetFree lL x (head1 (Jvm.Cond.code x code maxLocals ret :: ws) room_1) (fun aA uU => aA = #[(.long q1), (.long q2), (.long q3), (.long q4), (.int p5)] ∧ Z.Warmed39 uU.vm ∧ uU.heap = h0) (fun _ _ _ _ _ => True) (fun _ uU oO uU' => ∃ vV lA, oO = .returned vV ∧ Q_rm0 Z q1 q2 q3 q4 p5 ca cc h0 n0 vV uU'.heap lA ∧ FrameEnd uU oO uU' lA room_1.cells room_1.slots) := by
  refine MetFree.of_bodySF (plainFor_of_name own_pn_com_example_epoch_epoch_TrimmedEqualsPinLaw) hisR ?_
  intro pP eE sS mM args below meth cC s₁ Bd hml0 hP hK
  obtain ⟨rfl, hZ, hh⟩ := hP
  have hx := Bd.exec
  have hby := Bd.bytes
  have hml : cC.maxLocals = 17 := hml0
  have hown : sS.vm.findClass "com/example/epoch/epoch/TrimmedEqualsPinLaw" = some mM.cls := findClass_of_methodNamed Bd.named
  have hnm := (name_of_methodNamed Bd.named Bd.method).1
  have X0 : Stand pP lL eE room_1 sS mM #[(.long q1), (.long q2), (.long q3), (.long q4), (.int p5)] below meth cC s₁ [] 0 0 := Stand.of_body Bd
  have e0 : s₁.heap = h0 := by rw [← hh, Bd.state]; rfl
  have N0 := Fr.nil n0
  have K0 := Keep.refl h0 ([] : List Addr)
  show own_Fin pP eE below (fun tT oO => ∃ vV lA, oO = .returned vV ∧ Q_rm0 Z q1 q2 q3 q4 p5 ca cc h0 n0 vV tT.heap lA ∧ FrameEnd sS oO tT lA room_1.cells room_1.slots) (s₁.setTop (entryFrame mM #[(.long q1), (.long q2), (.long q3), (.long q4), (.int p5)] maxLocals))
  refine own_fin (b := s₁.setTop (mkF mM 0 #[.val (.long q1), .second, .val (.long q2), .second, .val (.long q3), .second, .val (.long q4), .second, .val (.int p5), .unset, .unset, .unset, .unset, .unset, .unset, .unset, .unset] [])) (fun tT kK => castTop (own_ef_rm0 mM q1 q2 q3 q4 p5) kK) ?_
  obtain ⟨T1_, h1_, X1_, e1_, E1_, A1_, D1_, -, st1_⟩ := newO X0 hx hZ hown (hw _ (List.mem_of_getElem? (i := 0) rfl)) (hw _ (List.mem_of_getElem? (i := 1) rfl)) (hw _ (List.mem_of_getElem? (i := 2) rfl)) e0 (g := (mkF mM 0 #[.val (.long q1), .second, .val (.long q2), .second, .val (.long q3), .second, .val (.long q4), .second, .val (.int p5), .unset, .unset, .unset, .unset, .unset, .unset, .unset, .unset] [])) rfl (Jvm.hb hby at_0) (by decide) (by decide)
  obtain ⟨b1_, g1_⟩ : ∃ z, z = h0.size := ⟨_, rfl⟩
  rw [← g1_] at A1_ D1_ st1_
  have sz_b1_ : h0.size ≤ b1_ := Nat.le_trans K0.1 (Nat.le_of_eq g1_.symm)
  have ge_b1_ : n0 ≤ b1_ := Nat.le_trans Z0 sz_b1_
  have fc2_ := Oa.ext E1_
  have K1_ := K0.ext E1_
  have F1__floor : Fld Z h1_ b1_ "com/example/epoch/epoch/Trimmed" "floor" "J" (.long (0 : Int64)) := D1_ (Or.inr (hw _ (List.mem_of_getElem? (i := 10) rfl))) (ty := .long) (by decide)
  have F1__removed : Fld Z h1_ b1_ "com/example/epoch/epoch/Trimmed" "removed" "J" (.long (0 : Int64)) := D1_ (Or.inr (hw _ (List.mem_of_getElem? (i := 12) rfl))) (ty := .long) (by decide)
  refine own_fin st1_ ?_
  show own_Fin pP eE below _ (T1_.setTop (mkF mM 3 #[.val (.long q1), .second, .val (.long q2), .second, .val (.long q3), .second, .val (.long q4), .second, .val (.int p5), .unset, .unset, .unset, .unset, .unset, .unset, .unset, .unset] [(.ref b1_)]))
  refine own_fin (b := T1_.setTop (mkF mM 6 #[.val (.long q1), .second, .val (.long q2), .second, .val (.long q3), .second, .val (.long q4), .second, .val (.int p5), .unset, .unset, .unset, .unset, .unset, .unset, .unset, .unset] [(.long q2), (.long q1), (.ref b1_), (.ref b1_)])) (fun tT kK => ?_) ?_
  · show Steps pP.tables eE below (T1_.setTop (mkF mM 3 #[.val (.long q1), .second, .val (.long q2), .second, .val (.long q3), .second, .val (.long q4), .second, .val (.int p5), .unset, .unset, .unset, .unset, .unset, .unset, .unset, .unset] [(.ref b1_)])) tT
    refine XS.dup X1_.here hx rfl (Jvm.hb hby at_3) rfl rfl ?_
    show Steps pP.tables eE below (T1_.setTop (mkF mM 4 #[.val (.long q1), .second, .val (.long q2), .second, .val (.long q3), .second, .val (.long q4), .second, .val (.int p5), .unset, .unset, .unset, .unset, .unset, .unset, .unset, .unset] [(.ref b1_), (.ref b1_)])) tT
    refine XS.lloadN X1_.here hx rfl (Jvm.hb hby at_4) rfl ?_
    show Steps pP.tables eE below (T1_.setTop (mkF mM 5 #[.val (.long q1), .second, .val (.long q2), .second, .val (.long q3), .second, .val (.long q4), .second, .val (.int p5), .unset, .unset, .unset, .unset, .unset, .unset, .unset, .unset] [(.long q1), (.ref b1_), (.ref b1_)])) tT
    refine XS.lloadN X1_.here hx rfl (Jvm.hb hby at_5) rfl ?_
    show Steps pP.tables eE below (T1_.setTop (mkF mM 6 #[.val (.long q1), .second, .val (.long q2), .second, .val (.long q3), .second, .val (.long q4), .second, .val (.int p5), .unset, .unset, .unset, .unset, .unset, .unset, .unset, .unset] [(.long q2), (.long q1), (.ref b1_), (.ref b1_)])) tT
    exact kK
  obtain ⟨_, _, ⟨T3_, L3_, k3_, n3_⟩, -, X3_, ⟨Lc3_, hQ3_, l3_, y3_, z3_⟩, st3_⟩ := X1_.specialBack hx (y := (⟨"com/example/epoch/epoch/Trimmed", "<init>", "(JJ)V"⟩ : MethodName)) rfl hown (mvT hZ (hw _ (List.mem_of_getElem? (i := 3) rfl))) (mvT hZ (hw _ (List.mem_of_getElem? (i := 4) rfl))) (mvT hZ (hw _ (List.mem_of_getElem? (i := 5) rfl))) (by decide) (backOf (W := 1) (rm_trim lL Z a0 hw [] b1_ q1 q2 h1_ n0 (Nat.le_trans Z0 K1_.1) A1_ F1__floor F1__removed ge_b1_) hZ (hw _ (List.mem_of_getElem? (i := 5) rfl)) (hw _ (List.mem_of_getElem? (i := 2) rfl)) (by decide) (by decide)) (g := (mkF mM 6 #[.val (.long q1), .second, .val (.long q2), .second, .val (.long q3), .second, .val (.long q4), .second, .val (.int p5), .unset, .unset, .unset, .unset, .unset, .unset, .unset, .unset] [(.long q2), (.long q1), (.ref b1_), (.ref b1_)])) rfl (by rw [hml]; rfl) (Steps.refl _) (a := b1_) (argsL := [(.long q1), (.long q2)]) (rest := [(.ref b1_)]) (lenOf own_pd2 rfl) rfl (by show 2 * 0 + _ ≤ _; exact Nat.le_of_eq rfl) (Jvm.hb hby at_6) (fun _ _ => ⟨rfl, e1_, (by decide : 1 + 0 ≤ _), (by decide : 2 + 0 ≤ _)⟩)
  dsimp only [Pt.U, Pt.locs, Pt.cells, Pt.slots] at X3_ l3_ y3_ z3_ st3_ hQ3_
  subst l3_ y3_ z3_
  obtain ⟨rfl, N3_q, p3__0, p3__1, p3__2, p3__3⟩ := hQ3_
  have N3_ := Fr.app N0 N3_q
  have fc4_ := fc2_.keep p3__0 (allS ge_b1_ all0)
  have fc5_ := A1_.keep p3__0
  have K3_ := K1_.trans p3__0 (allS (Or.inr sz_b1_) all0)
  refine own_fin (fun tT kK => st3_.trans kK) ?_
  show own_Fin pP eE below _ (T3_.setTop (mkF mM 9 #[.val (.long q1), .second, .val (.long q2), .second, .val (.long q3), .second, .val (.long q4), .second, .val (.int p5), .unset, .unset, .unset, .unset, .unset, .unset, .unset, .unset] [(.ref b1_)]))
  refine own_fin (b := T3_.setTop (mkF mM 18 #[.val (.long q1), .second, .val (.long q2), .second, .val (.long q3), .second, .val (.long q4), .second, .val (.int p5), .val (.ref b1_), .val (.int (p5 &&& (7 : Int32))), .unset, .unset, .unset, .unset, .unset, .unset] [])) (fun tT kK => ?_) ?_
  · show Steps pP.tables eE below (T3_.setTop (mkF mM 9 #[.val (.long q1), .second, .val (.long q2), .second, .val (.long q3), .second, .val (.long q4), .second, .val (.int p5), .unset, .unset, .unset, .unset, .unset, .unset, .unset, .unset] [(.ref b1_)])) tT
    refine XS.astore X3_.here hx rfl (Jvm.hb hby at_9) rfl rfl (l' := #[.val (.long q1), .second, .val (.long q2), .second, .val (.long q3), .second, .val (.long q4), .second, .val (.int p5), .val (.ref b1_), .unset, .unset, .unset, .unset, .unset, .unset, .unset]) rfl ?_
    show Steps pP.tables eE below (T3_.setTop (mkF mM 11 #[.val (.long q1), .second, .val (.long q2), .second, .val (.long q3), .second, .val (.long q4), .second, .val (.int p5), .val (.ref b1_), .unset, .unset, .unset, .unset, .unset, .unset, .unset] [])) tT
    refine XS.iload X3_.here hx rfl (Jvm.hb hby at_11) rfl ?_
    show Steps pP.tables eE below (T3_.setTop (mkF mM 13 #[.val (.long q1), .second, .val (.long q2), .second, .val (.long q3), .second, .val (.long q4), .second, .val (.int p5), .val (.ref b1_), .unset, .unset, .unset, .unset, .unset, .unset, .unset] [(.int p5)])) tT
    refine XS.bipush X3_.here hx rfl (Jvm.hb hby at_13) ?_
    show Steps pP.tables eE below (T3_.setTop (mkF mM 15 #[.val (.long q1), .second, .val (.long q2), .second, .val (.long q3), .second, .val (.long q4), .second, .val (.int p5), .val (.ref b1_), .unset, .unset, .unset, .unset, .unset, .unset, .unset] [(.int (7 : Int32)), (.int p5)])) tT
    refine XS.iand X3_.here hx rfl (Jvm.hb hby at_15) rfl ?_
    show Steps pP.tables eE below (T3_.setTop (mkF mM 16 #[.val (.long q1), .second, .val (.long q2), .second, .val (.long q3), .second, .val (.long q4), .second, .val (.int p5), .val (.ref b1_), .unset, .unset, .unset, .unset, .unset, .unset, .unset] [(.int (p5 &&& (7 : Int32)))])) tT
    refine XS.istore X3_.here hx rfl (Jvm.hb hby at_16) rfl (l' := #[.val (.long q1), .second, .val (.long q2), .second, .val (.long q3), .second, .val (.long q4), .second, .val (.int p5), .val (.ref b1_), .val (.int (p5 &&& (7 : Int32))), .unset, .unset, .unset, .unset, .unset, .unset]) rfl ?_
    show Steps pP.tables eE below (T3_.setTop (mkF mM 18 #[.val (.long q1), .second, .val (.long q2), .second, .val (.long q3), .second, .val (.long q4), .second, .val (.int p5), .val (.ref b1_), .val (.int (p5 &&& (7 : Int32))), .unset, .unset, .unset, .unset, .unset, .unset] [])) tT
    exact kK
  show own_Fin pP eE below _ (T3_.setTop (mkF mM 18 #[.val (.long q1), .second, .val (.long q2), .second, .val (.long q3), .second, .val (.long q4), .second, .val (.int p5), .val (.ref b1_), .val (.int (p5 &&& (7 : Int32))), .unset, .unset, .unset, .unset, .unset, .unset] []))
  generalize hmv : (p5 &&& (7 : Int32)) = mv
  show own_Fin pP eE below _ (T3_.setTop (mkF mM 18 #[.val (.long q1), .second, .val (.long q2), .second, .val (.long q3), .second, .val (.long q4), .second, .val (.int p5), .val (.ref b1_), .val (.int mv), .unset, .unset, .unset, .unset, .unset, .unset] []))
  refine own_fin (b := T3_.setTop (mkF mM 21 #[.val (.long q1), .second, .val (.long q2), .second, .val (.long q3), .second, .val (.long q4), .second, .val (.int p5), .val (.ref b1_), .val (.int mv), .unset, .unset, .unset, .unset, .unset, .unset] [(.int (4 : Int32)), (.int mv)])) (fun tT kK => ?_) ?_
  · show Steps pP.tables eE below (T3_.setTop (mkF mM 18 #[.val (.long q1), .second, .val (.long q2), .second, .val (.long q3), .second, .val (.long q4), .second, .val (.int p5), .val (.ref b1_), .val (.int mv), .unset, .unset, .unset, .unset, .unset, .unset] [])) tT
    refine XS.iload X3_.here hx rfl (Jvm.hb hby at_18) rfl ?_
    show Steps pP.tables eE below (T3_.setTop (mkF mM 20 #[.val (.long q1), .second, .val (.long q2), .second, .val (.long q3), .second, .val (.long q4), .second, .val (.int p5), .val (.ref b1_), .val (.int mv), .unset, .unset, .unset, .unset, .unset, .unset] [(.int mv)])) tT
    refine XS.iconst X3_.here hx rfl (Jvm.hb hby at_20) ?_
    show Steps pP.tables eE below (T3_.setTop (mkF mM 21 #[.val (.long q1), .second, .val (.long q2), .second, .val (.long q3), .second, .val (.long q4), .second, .val (.int p5), .val (.ref b1_), .val (.int mv), .unset, .unset, .unset, .unset, .unset, .unset] [(.int (4 : Int32)), (.int mv)])) tT
    exact kK
  by_cases hc21_6_ : mv = (4 : Int32)
  · refine own_fin (b := T3_.setTop (mkF mM 27 #[.val (.long q1), .second, .val (.long q2), .second, .val (.long q3), .second, .val (.long q4), .second, .val (.int p5), .val (.ref b1_), .val (.int mv), .unset, .unset, .unset, .unset, .unset, .unset] [.null, (.ref b1_)])) (fun tT kK => ?_) ?_
    · show Steps pP.tables eE below (T3_.setTop (mkF mM 21 #[.val (.long q1), .second, .val (.long q2), .second, .val (.long q3), .second, .val (.long q4), .second, .val (.int p5), .val (.ref b1_), .val (.int mv), .unset, .unset, .unset, .unset, .unset, .unset] [(.int (4 : Int32)), (.int mv)])) tT
      refine XS.icmpNo X3_.here hx rfl (Jvm.hb hby at_21) rfl (teq (hc21_6_ : mv = (4 : Int32))).2 ?_
      show Steps pP.tables eE below (T3_.setTop (mkF mM 24 #[.val (.long q1), .second, .val (.long q2), .second, .val (.long q3), .second, .val (.long q4), .second, .val (.int p5), .val (.ref b1_), .val (.int mv), .unset, .unset, .unset, .unset, .unset, .unset] [])) tT
      refine XS.aload X3_.here hx rfl (Jvm.hb hby at_24) rfl rfl ?_
      show Steps pP.tables eE below (T3_.setTop (mkF mM 26 #[.val (.long q1), .second, .val (.long q2), .second, .val (.long q3), .second, .val (.long q4), .second, .val (.int p5), .val (.ref b1_), .val (.int mv), .unset, .unset, .unset, .unset, .unset, .unset] [(.ref b1_)])) tT
      refine XS.aconstNull X3_.here hx rfl (Jvm.hb hby at_26) ?_
      show Steps pP.tables eE below (T3_.setTop (mkF mM 27 #[.val (.long q1), .second, .val (.long q2), .second, .val (.long q3), .second, .val (.long q4), .second, .val (.int p5), .val (.ref b1_), .val (.int mv), .unset, .unset, .unset, .unset, .unset, .unset] [.null, (.ref b1_)])) tT
      exact kK
    obtain ⟨cq7_, kq7_, q7_a, q7_b, q7_c⟩ := isOf hZ rfl p3__1
    obtain ⟨_, _, ⟨T7_, L7_, k7_, n7_⟩, -, X7_, ⟨Lc7_, hQ7_, l7_, y7_, z7_⟩, st7_⟩ := X3_.virtualBack hx (y := (⟨"com/example/epoch/epoch/Trimmed", "equals", "(Ljava/lang/Object;)Z"⟩ : MethodName)) (z := (⟨"com/example/epoch/epoch/Trimmed", "equals", "(Ljava/lang/Object;)Z"⟩ : MethodName)) hown (mvT hZ (hw _ (List.mem_of_getElem? (i := 13) rfl))) (mvT hZ (hw _ (List.mem_of_getElem? (i := 14) rfl))) (notFace_of_selects (args := #[]) (mvT hZ (hw _ (List.mem_of_getElem? (i := 16) rfl)))) (mvT hZ (hw _ (List.mem_of_getElem? (i := 16) rfl))) (mvT hZ (hw _ (List.mem_of_getElem? (i := 15) rfl))) (by decide) (backOf (W := 0) (rm_null lL Z a0 hw [] b1_ T3_.heap n0 (Nat.le_trans Z0 K3_.1) ) hZ (hw _ (List.mem_of_getElem? (i := 17) rfl)) (hw _ (List.mem_of_getElem? (i := 2) rfl)) (by decide) (by decide)) q7_a q7_c (g := (mkF mM 27 #[.val (.long q1), .second, .val (.long q2), .second, .val (.long q3), .second, .val (.long q4), .second, .val (.int p5), .val (.ref b1_), .val (.int mv), .unset, .unset, .unset, .unset, .unset, .unset] [.null, (.ref b1_)])) rfl (by rw [hml]; rfl) (Steps.refl _) (argsL := [.null]) (rest := []) (lenOf own_pd3 rfl) rfl (by show 2 * 0 + _ ≤ _; exact Nat.le_of_eq rfl) (Jvm.hb hby at_27) (fun _ _ => ⟨rfl, rfl, (by decide : 1 + 0 ≤ _), (by decide : 2 + 0 ≤ _)⟩)
    dsimp only [Pt.U, Pt.locs, Pt.cells, Pt.slots] at X7_ l7_ y7_ z7_ st7_ hQ7_
    subst l7_ y7_ z7_
    obtain ⟨rfl, N7_q, p7__0⟩ := hQ7_
    have N7_ := Fr.app N3_ N7_q
    refine own_fin (fun tT kK => st7_.trans kK) ?_
    show own_Fin pP eE below _ (T7_.setTop (mkF mM 30 #[.val (.long q1), .second, .val (.long q2), .second, .val (.long q3), .second, .val (.long q4), .second, .val (.int p5), .val (.ref b1_), .val (.int mv), .unset, .unset, .unset, .unset, .unset, .unset] [(.int (0 : Int32))]))
    refine own_fin (b := T7_.setTop (mkF mM 38 #[.val (.long q1), .second, .val (.long q2), .second, .val (.long q3), .second, .val (.long q4), .second, .val (.int p5), .val (.ref b1_), .val (.int mv), .unset, .unset, .unset, .unset, .unset, .unset] [(.int (1 : Int32))])) (fun tT kK => ?_) ?_
    · show Steps pP.tables eE below (T7_.setTop (mkF mM 30 #[.val (.long q1), .second, .val (.long q2), .second, .val (.long q3), .second, .val (.long q4), .second, .val (.int p5), .val (.ref b1_), .val (.int mv), .unset, .unset, .unset, .unset, .unset, .unset] [(.int (0 : Int32))])) tT
      refine XS.ifNo X7_.here hx rfl (Jvm.hb hby at_30) rfl ((if0 _ _).trans (teq ((by decide) : (0 : Int32) = (0 : Int32))).2) ?_
      show Steps pP.tables eE below (T7_.setTop (mkF mM 33 #[.val (.long q1), .second, .val (.long q2), .second, .val (.long q3), .second, .val (.long q4), .second, .val (.int p5), .val (.ref b1_), .val (.int mv), .unset, .unset, .unset, .unset, .unset, .unset] [])) tT
      refine XS.iconst X7_.here hx rfl (Jvm.hb hby at_33) ?_
      show Steps pP.tables eE below (T7_.setTop (mkF mM 34 #[.val (.long q1), .second, .val (.long q2), .second, .val (.long q3), .second, .val (.long q4), .second, .val (.int p5), .val (.ref b1_), .val (.int mv), .unset, .unset, .unset, .unset, .unset, .unset] [(.int (1 : Int32))])) tT
      refine XS.goto X7_.here hx rfl (pc0 := 34) (pc' := 38) rfl (Jvm.hb hby at_34) (by decide) (by decide) ?_
      show Steps pP.tables eE below (T7_.setTop (mkF mM 38 #[.val (.long q1), .second, .val (.long q2), .second, .val (.long q3), .second, .val (.long q4), .second, .val (.int p5), .val (.ref b1_), .val (.int mv), .unset, .unset, .unset, .unset, .unset, .unset] [(.int (1 : Int32))])) tT
      exact kK
    obtain ⟨fs, hr, hrun, hended, hW, hsame⟩ := X7_.leave (v := some (.int (1 : Int32))) (fun h => by rw [Bd.returns] at h; cases h)
    refine ⟨_, _, ?_, hrun, hended, _, _, rfl, ?_, ⟨_, rfl⟩, hW, hsame.mono (by decide) (by decide)⟩
    · show Steps pP.tables eE below (T7_.setTop (mkF mM 38 #[.val (.long q1), .second, .val (.long q2), .second, .val (.long q3), .second, .val (.long q4), .second, .val (.int p5), .val (.ref b1_), .val (.int mv), .unset, .unset, .unset, .unset, .unset, .unset] [(.int (1 : Int32))])) _
      exact retN X7_ hx (t := .boolean) Bd.returns (by simp) (Jvm.hb hby at_38) hr
    · show Q_rm0 Z q1 q2 q3 q4 p5 ca cc h0 n0 _ T7_.heap _
      rw [p7__0]
      exact ⟨rfl, N7_⟩
  · refine own_fin (b := T3_.setTop (mkF mM 42 #[.val (.long q1), .second, .val (.long q2), .second, .val (.long q3), .second, .val (.long q4), .second, .val (.int p5), .val (.ref b1_), .val (.int mv), .unset, .unset, .unset, .unset, .unset, .unset] [(.int (5 : Int32)), (.int mv)])) (fun tT kK => ?_) ?_
    · show Steps pP.tables eE below (T3_.setTop (mkF mM 21 #[.val (.long q1), .second, .val (.long q2), .second, .val (.long q3), .second, .val (.long q4), .second, .val (.int p5), .val (.ref b1_), .val (.int mv), .unset, .unset, .unset, .unset, .unset, .unset] [(.int (4 : Int32)), (.int mv)])) tT
      refine XS.icmpYes X3_.here hx rfl (pc0 := 21) (pc' := 39) rfl (Jvm.hb hby at_21) rfl (feq (hc21_6_ : ¬ (mv = (4 : Int32)))).2 (by decide) (by decide) ?_
      show Steps pP.tables eE below (T3_.setTop (mkF mM 39 #[.val (.long q1), .second, .val (.long q2), .second, .val (.long q3), .second, .val (.long q4), .second, .val (.int p5), .val (.ref b1_), .val (.int mv), .unset, .unset, .unset, .unset, .unset, .unset] [])) tT
      refine XS.iload X3_.here hx rfl (Jvm.hb hby at_39) rfl ?_
      show Steps pP.tables eE below (T3_.setTop (mkF mM 41 #[.val (.long q1), .second, .val (.long q2), .second, .val (.long q3), .second, .val (.long q4), .second, .val (.int p5), .val (.ref b1_), .val (.int mv), .unset, .unset, .unset, .unset, .unset, .unset] [(.int mv)])) tT
      refine XS.iconst X3_.here hx rfl (Jvm.hb hby at_41) ?_
      show Steps pP.tables eE below (T3_.setTop (mkF mM 42 #[.val (.long q1), .second, .val (.long q2), .second, .val (.long q3), .second, .val (.long q4), .second, .val (.int p5), .val (.ref b1_), .val (.int mv), .unset, .unset, .unset, .unset, .unset, .unset] [(.int (5 : Int32)), (.int mv)])) tT
      exact kK
    by_cases hc42_8_ : mv = (5 : Int32)
    · refine own_fin (b := T3_.setTop (mkF mM 48 #[.val (.long q1), .second, .val (.long q2), .second, .val (.long q3), .second, .val (.long q4), .second, .val (.int p5), .val (.ref b1_), .val (.int mv), .unset, .unset, .unset, .unset, .unset, .unset] [(.long q1), (.ref b1_)])) (fun tT kK => ?_) ?_
      · show Steps pP.tables eE below (T3_.setTop (mkF mM 42 #[.val (.long q1), .second, .val (.long q2), .second, .val (.long q3), .second, .val (.long q4), .second, .val (.int p5), .val (.ref b1_), .val (.int mv), .unset, .unset, .unset, .unset, .unset, .unset] [(.int (5 : Int32)), (.int mv)])) tT
        refine XS.icmpNo X3_.here hx rfl (Jvm.hb hby at_42) rfl (teq (hc42_8_ : mv = (5 : Int32))).2 ?_
        show Steps pP.tables eE below (T3_.setTop (mkF mM 45 #[.val (.long q1), .second, .val (.long q2), .second, .val (.long q3), .second, .val (.long q4), .second, .val (.int p5), .val (.ref b1_), .val (.int mv), .unset, .unset, .unset, .unset, .unset, .unset] [])) tT
        refine XS.aload X3_.here hx rfl (Jvm.hb hby at_45) rfl rfl ?_
        show Steps pP.tables eE below (T3_.setTop (mkF mM 47 #[.val (.long q1), .second, .val (.long q2), .second, .val (.long q3), .second, .val (.long q4), .second, .val (.int p5), .val (.ref b1_), .val (.int mv), .unset, .unset, .unset, .unset, .unset, .unset] [(.ref b1_)])) tT
        refine XS.lloadN X3_.here hx rfl (Jvm.hb hby at_47) rfl ?_
        show Steps pP.tables eE below (T3_.setTop (mkF mM 48 #[.val (.long q1), .second, .val (.long q2), .second, .val (.long q3), .second, .val (.long q4), .second, .val (.int p5), .val (.ref b1_), .val (.int mv), .unset, .unset, .unset, .unset, .unset, .unset] [(.long q1), (.ref b1_)])) tT
        exact kK
      obtain ⟨_, _, ⟨T9_, L9_, k9_, n9_⟩, -, X9_, ⟨Lc9_, hQ9_, l9_, y9_, z9_⟩, st9_⟩ := Jvm.LawKit.callS X3_ hx (y := (⟨"java/lang/Long", "valueOf", "(J)Ljava/lang/Long;"⟩ : MethodName)) hown (mvT hZ (hw _ (List.mem_of_getElem? (i := 20) rfl))) (mvT hZ (hw _ (List.mem_of_getElem? (i := 21) rfl))) (mvT hZ (hw _ (List.mem_of_getElem? (i := 22) rfl))) (mvT hZ (hw _ (List.mem_of_getElem? (i := 23) rfl))) (by decide) (backOf (W := 1) (rm_lval lL Z a0 hw [] q1 ca cc T3_.heap n0 (Nat.le_trans Z0 K3_.1) fc4_ Ca Sa) hZ (hw _ (List.mem_of_getElem? (i := 23) rfl)) (hw _ (List.mem_of_getElem? (i := 22) rfl)) (by decide) (by decide)) (g := (mkF mM 48 #[.val (.long q1), .second, .val (.long q2), .second, .val (.long q3), .second, .val (.long q4), .second, .val (.int p5), .val (.ref b1_), .val (.int mv), .unset, .unset, .unset, .unset, .unset, .unset] [(.long q1), (.ref b1_)])) rfl (by rw [hml]; rfl) (argsL := [(.long q1)]) (rest := [(.ref b1_)]) (lenOf own_pd4 rfl) rfl (by show 2 * 0 + _ ≤ _; exact Nat.le_of_eq rfl) (Jvm.hb hby at_48) (fun _ _ => ⟨rfl, rfl, (by decide : 1 + 1 ≤ _), (by decide : 2 + 1 ≤ _)⟩)
      dsimp only [Pt.U, Pt.locs, Pt.cells, Pt.slots] at X9_ l9_ y9_ z9_ st9_ hQ9_
      subst l9_ y9_ z9_
      obtain ⟨b_9_, rfl, N9_q, p9__0, p9__1⟩ := hQ9_
      have N9_ := Fr.app N3_ N9_q
      have fc10_ := fc4_.keep p9__0 all0
      have fc11_ := p3__1.keep p9__0
      have fc12_ := p3__2.keep p9__0 nin0
      have fc13_ := p3__3.keep p9__0 nin0
      have K9_ := K3_.trans p9__0 all0
      refine own_fin (fun tT kK => st9_ tT kK) ?_
      show own_Fin pP eE below _ (T9_.setTop (mkF mM 51 #[.val (.long q1), .second, .val (.long q2), .second, .val (.long q3), .second, .val (.long q4), .second, .val (.int p5), .val (.ref b1_), .val (.int mv), .unset, .unset, .unset, .unset, .unset, .unset] [(.ref b_9_), (.ref b1_)]))
      obtain ⟨cq14_, kq14_, q14_a, q14_b, q14_c⟩ := isOf hZ rfl fc11_
      obtain ⟨_, _, ⟨T14_, L14_, k14_, n14_⟩, -, X14_, ⟨Lc14_, hQ14_, l14_, y14_, z14_⟩, st14_⟩ := X9_.virtualBack hx (y := (⟨"com/example/epoch/epoch/Trimmed", "equals", "(Ljava/lang/Object;)Z"⟩ : MethodName)) (z := (⟨"com/example/epoch/epoch/Trimmed", "equals", "(Ljava/lang/Object;)Z"⟩ : MethodName)) hown (mvT hZ (hw _ (List.mem_of_getElem? (i := 13) rfl))) (mvT hZ (hw _ (List.mem_of_getElem? (i := 14) rfl))) (notFace_of_selects (args := #[]) (mvT hZ (hw _ (List.mem_of_getElem? (i := 16) rfl)))) (mvT hZ (hw _ (List.mem_of_getElem? (i := 16) rfl))) (mvT hZ (hw _ (List.mem_of_getElem? (i := 15) rfl))) (by decide) (backOf (W := 0) (rm_no lL Z a0 hw [] b1_ b_9_ T9_.heap n0 (Nat.le_trans Z0 K9_.1) p9__1) hZ (hw _ (List.mem_of_getElem? (i := 17) rfl)) (hw _ (List.mem_of_getElem? (i := 2) rfl)) (by decide) (by decide)) q14_a q14_c (g := (mkF mM 51 #[.val (.long q1), .second, .val (.long q2), .second, .val (.long q3), .second, .val (.long q4), .second, .val (.int p5), .val (.ref b1_), .val (.int mv), .unset, .unset, .unset, .unset, .unset, .unset] [(.ref b_9_), (.ref b1_)])) rfl (by rw [hml]; rfl) (Steps.refl _) (argsL := [(.ref b_9_)]) (rest := []) (lenOf own_pd3 rfl) rfl (by show 2 * 0 + _ ≤ _; exact Nat.le_of_eq rfl) (Jvm.hb hby at_51) (fun _ _ => ⟨rfl, rfl, (by decide : 2 + 0 ≤ _), (by decide : 3 + 0 ≤ _)⟩)
      dsimp only [Pt.U, Pt.locs, Pt.cells, Pt.slots] at X14_ l14_ y14_ z14_ st14_ hQ14_
      subst l14_ y14_ z14_
      obtain ⟨rfl, N14_q, p14__0⟩ := hQ14_
      have N14_ := Fr.app N9_ N14_q
      refine own_fin (fun tT kK => st14_.trans kK) ?_
      show own_Fin pP eE below _ (T14_.setTop (mkF mM 54 #[.val (.long q1), .second, .val (.long q2), .second, .val (.long q3), .second, .val (.long q4), .second, .val (.int p5), .val (.ref b1_), .val (.int mv), .unset, .unset, .unset, .unset, .unset, .unset] [(.int (0 : Int32))]))
      refine own_fin (b := T14_.setTop (mkF mM 62 #[.val (.long q1), .second, .val (.long q2), .second, .val (.long q3), .second, .val (.long q4), .second, .val (.int p5), .val (.ref b1_), .val (.int mv), .unset, .unset, .unset, .unset, .unset, .unset] [(.int (1 : Int32))])) (fun tT kK => ?_) ?_
      · show Steps pP.tables eE below (T14_.setTop (mkF mM 54 #[.val (.long q1), .second, .val (.long q2), .second, .val (.long q3), .second, .val (.long q4), .second, .val (.int p5), .val (.ref b1_), .val (.int mv), .unset, .unset, .unset, .unset, .unset, .unset] [(.int (0 : Int32))])) tT
        refine XS.ifNo X14_.here hx rfl (Jvm.hb hby at_54) rfl ((if0 _ _).trans (teq ((by decide) : (0 : Int32) = (0 : Int32))).2) ?_
        show Steps pP.tables eE below (T14_.setTop (mkF mM 57 #[.val (.long q1), .second, .val (.long q2), .second, .val (.long q3), .second, .val (.long q4), .second, .val (.int p5), .val (.ref b1_), .val (.int mv), .unset, .unset, .unset, .unset, .unset, .unset] [])) tT
        refine XS.iconst X14_.here hx rfl (Jvm.hb hby at_57) ?_
        show Steps pP.tables eE below (T14_.setTop (mkF mM 58 #[.val (.long q1), .second, .val (.long q2), .second, .val (.long q3), .second, .val (.long q4), .second, .val (.int p5), .val (.ref b1_), .val (.int mv), .unset, .unset, .unset, .unset, .unset, .unset] [(.int (1 : Int32))])) tT
        refine XS.goto X14_.here hx rfl (pc0 := 58) (pc' := 62) rfl (Jvm.hb hby at_58) (by decide) (by decide) ?_
        show Steps pP.tables eE below (T14_.setTop (mkF mM 62 #[.val (.long q1), .second, .val (.long q2), .second, .val (.long q3), .second, .val (.long q4), .second, .val (.int p5), .val (.ref b1_), .val (.int mv), .unset, .unset, .unset, .unset, .unset, .unset] [(.int (1 : Int32))])) tT
        exact kK
      obtain ⟨fs, hr, hrun, hended, hW, hsame⟩ := X14_.leave (v := some (.int (1 : Int32))) (fun h => by rw [Bd.returns] at h; cases h)
      refine ⟨_, _, ?_, hrun, hended, _, _, rfl, ?_, ⟨_, rfl⟩, hW, hsame.mono (by decide) (by decide)⟩
      · show Steps pP.tables eE below (T14_.setTop (mkF mM 62 #[.val (.long q1), .second, .val (.long q2), .second, .val (.long q3), .second, .val (.long q4), .second, .val (.int p5), .val (.ref b1_), .val (.int mv), .unset, .unset, .unset, .unset, .unset, .unset] [(.int (1 : Int32))])) _
        exact retN X14_ hx (t := .boolean) Bd.returns (by simp) (Jvm.hb hby at_62) hr
      · show Q_rm0 Z q1 q2 q3 q4 p5 ca cc h0 n0 _ T14_.heap _
        rw [p14__0]
        exact ⟨rfl, N14_⟩
    · refine own_fin (b := T3_.setTop (mkF mM 67 #[.val (.long q1), .second, .val (.long q2), .second, .val (.long q3), .second, .val (.long q4), .second, .val (.int p5), .val (.ref b1_), .val (.int mv), .unset, .unset, .unset, .unset, .unset, .unset] [(.int (6 : Int32)), (.int mv)])) (fun tT kK => ?_) ?_
      · show Steps pP.tables eE below (T3_.setTop (mkF mM 42 #[.val (.long q1), .second, .val (.long q2), .second, .val (.long q3), .second, .val (.long q4), .second, .val (.int p5), .val (.ref b1_), .val (.int mv), .unset, .unset, .unset, .unset, .unset, .unset] [(.int (5 : Int32)), (.int mv)])) tT
        refine XS.icmpYes X3_.here hx rfl (pc0 := 42) (pc' := 63) rfl (Jvm.hb hby at_42) rfl (feq (hc42_8_ : ¬ (mv = (5 : Int32)))).2 (by decide) (by decide) ?_
        show Steps pP.tables eE below (T3_.setTop (mkF mM 63 #[.val (.long q1), .second, .val (.long q2), .second, .val (.long q3), .second, .val (.long q4), .second, .val (.int p5), .val (.ref b1_), .val (.int mv), .unset, .unset, .unset, .unset, .unset, .unset] [])) tT
        refine XS.iload X3_.here hx rfl (Jvm.hb hby at_63) rfl ?_
        show Steps pP.tables eE below (T3_.setTop (mkF mM 65 #[.val (.long q1), .second, .val (.long q2), .second, .val (.long q3), .second, .val (.long q4), .second, .val (.int p5), .val (.ref b1_), .val (.int mv), .unset, .unset, .unset, .unset, .unset, .unset] [(.int mv)])) tT
        refine XS.bipush X3_.here hx rfl (Jvm.hb hby at_65) ?_
        show Steps pP.tables eE below (T3_.setTop (mkF mM 67 #[.val (.long q1), .second, .val (.long q2), .second, .val (.long q3), .second, .val (.long q4), .second, .val (.int p5), .val (.ref b1_), .val (.int mv), .unset, .unset, .unset, .unset, .unset, .unset] [(.int (6 : Int32)), (.int mv)])) tT
        exact kK
      by_cases hc67_15_ : mv = (6 : Int32)
      · refine own_fin (b := T3_.setTop (mkF mM 74 #[.val (.long q1), .second, .val (.long q2), .second, .val (.long q3), .second, .val (.long q4), .second, .val (.int p5), .val (.ref b1_), .val (.int mv), .unset, .unset, .unset, .unset, .unset, .unset] [(.ref b1_), (.ref b1_)])) (fun tT kK => ?_) ?_
        · show Steps pP.tables eE below (T3_.setTop (mkF mM 67 #[.val (.long q1), .second, .val (.long q2), .second, .val (.long q3), .second, .val (.long q4), .second, .val (.int p5), .val (.ref b1_), .val (.int mv), .unset, .unset, .unset, .unset, .unset, .unset] [(.int (6 : Int32)), (.int mv)])) tT
          refine XS.icmpNo X3_.here hx rfl (Jvm.hb hby at_67) rfl (teq (hc67_15_ : mv = (6 : Int32))).2 ?_
          show Steps pP.tables eE below (T3_.setTop (mkF mM 70 #[.val (.long q1), .second, .val (.long q2), .second, .val (.long q3), .second, .val (.long q4), .second, .val (.int p5), .val (.ref b1_), .val (.int mv), .unset, .unset, .unset, .unset, .unset, .unset] [])) tT
          refine XS.aload X3_.here hx rfl (Jvm.hb hby at_70) rfl rfl ?_
          show Steps pP.tables eE below (T3_.setTop (mkF mM 72 #[.val (.long q1), .second, .val (.long q2), .second, .val (.long q3), .second, .val (.long q4), .second, .val (.int p5), .val (.ref b1_), .val (.int mv), .unset, .unset, .unset, .unset, .unset, .unset] [(.ref b1_)])) tT
          refine XS.aload X3_.here hx rfl (Jvm.hb hby at_72) rfl rfl ?_
          show Steps pP.tables eE below (T3_.setTop (mkF mM 74 #[.val (.long q1), .second, .val (.long q2), .second, .val (.long q3), .second, .val (.long q4), .second, .val (.int p5), .val (.ref b1_), .val (.int mv), .unset, .unset, .unset, .unset, .unset, .unset] [(.ref b1_), (.ref b1_)])) tT
          exact kK
        obtain ⟨cq16_, kq16_, q16_a, q16_b, q16_c⟩ := isOf hZ rfl p3__1
        obtain ⟨_, _, ⟨T16_, L16_, k16_, n16_⟩, -, X16_, ⟨Lc16_, hQ16_, l16_, y16_, z16_⟩, st16_⟩ := X3_.virtualBack hx (y := (⟨"com/example/epoch/epoch/Trimmed", "equals", "(Ljava/lang/Object;)Z"⟩ : MethodName)) (z := (⟨"com/example/epoch/epoch/Trimmed", "equals", "(Ljava/lang/Object;)Z"⟩ : MethodName)) hown (mvT hZ (hw _ (List.mem_of_getElem? (i := 13) rfl))) (mvT hZ (hw _ (List.mem_of_getElem? (i := 14) rfl))) (notFace_of_selects (args := #[]) (mvT hZ (hw _ (List.mem_of_getElem? (i := 16) rfl)))) (mvT hZ (hw _ (List.mem_of_getElem? (i := 16) rfl))) (mvT hZ (hw _ (List.mem_of_getElem? (i := 15) rfl))) (by decide) (backOf (W := 0) (rm_self lL Z a0 hw [] b1_ q1 q2 T3_.heap n0 (Nat.le_trans Z0 K3_.1) p3__1 p3__2 p3__3) hZ (hw _ (List.mem_of_getElem? (i := 17) rfl)) (hw _ (List.mem_of_getElem? (i := 2) rfl)) (by decide) (by decide)) q16_a q16_c (g := (mkF mM 74 #[.val (.long q1), .second, .val (.long q2), .second, .val (.long q3), .second, .val (.long q4), .second, .val (.int p5), .val (.ref b1_), .val (.int mv), .unset, .unset, .unset, .unset, .unset, .unset] [(.ref b1_), (.ref b1_)])) rfl (by rw [hml]; rfl) (Steps.refl _) (argsL := [(.ref b1_)]) (rest := []) (lenOf own_pd3 rfl) rfl (by show 2 * 0 + _ ≤ _; exact Nat.le_of_eq rfl) (Jvm.hb hby at_74) (fun _ _ => ⟨rfl, rfl, (by decide : 1 + 0 ≤ _), (by decide : 2 + 0 ≤ _)⟩)
        dsimp only [Pt.U, Pt.locs, Pt.cells, Pt.slots] at X16_ l16_ y16_ z16_ st16_ hQ16_
        subst l16_ y16_ z16_
        obtain ⟨rfl, N16_q, p16__0⟩ := hQ16_
        have N16_ := Fr.app N3_ N16_q
        refine own_fin (fun tT kK => st16_.trans kK) ?_
        show own_Fin pP eE below _ (T16_.setTop (mkF mM 77 #[.val (.long q1), .second, .val (.long q2), .second, .val (.long q3), .second, .val (.long q4), .second, .val (.int p5), .val (.ref b1_), .val (.int mv), .unset, .unset, .unset, .unset, .unset, .unset] [(.int (1 : Int32))]))
        obtain ⟨fs, hr, hrun, hended, hW, hsame⟩ := X16_.leave (v := some (.int (1 : Int32))) (fun h => by rw [Bd.returns] at h; cases h)
        refine ⟨_, _, ?_, hrun, hended, _, _, rfl, ?_, ⟨_, rfl⟩, hW, hsame.mono (by decide) (by decide)⟩
        · show Steps pP.tables eE below (T16_.setTop (mkF mM 77 #[.val (.long q1), .second, .val (.long q2), .second, .val (.long q3), .second, .val (.long q4), .second, .val (.int p5), .val (.ref b1_), .val (.int mv), .unset, .unset, .unset, .unset, .unset, .unset] [(.int (1 : Int32))])) _
          exact retN X16_ hx (t := .boolean) Bd.returns (by simp) (Jvm.hb hby at_77) hr
        · show Q_rm0 Z q1 q2 q3 q4 p5 ca cc h0 n0 _ T16_.heap _
          rw [p16__0]
          exact ⟨rfl, N16_⟩
      · refine own_fin (b := T3_.setTop (mkF mM 89 #[.val (.long q1), .second, .val (.long q2), .second, .val (.long q3), .second, .val (.long q4), .second, .val (.int p5), .val (.ref b1_), .val (.int mv), .val (.long q3), .second, .val (.long q4), .second, .unset, .unset] [(.int (1 : Int32)), (.int mv)])) (fun tT kK => ?_) ?_
        · show Steps pP.tables eE below (T3_.setTop (mkF mM 67 #[.val (.long q1), .second, .val (.long q2), .second, .val (.long q3), .second, .val (.long q4), .second, .val (.int p5), .val (.ref b1_), .val (.int mv), .unset, .unset, .unset, .unset, .unset, .unset] [(.int (6 : Int32)), (.int mv)])) tT
          refine XS.icmpYes X3_.here hx rfl (pc0 := 67) (pc' := 78) rfl (Jvm.hb hby at_67) rfl (feq (hc67_15_ : ¬ (mv = (6 : Int32)))).2 (by decide) (by decide) ?_
          show Steps pP.tables eE below (T3_.setTop (mkF mM 78 #[.val (.long q1), .second, .val (.long q2), .second, .val (.long q3), .second, .val (.long q4), .second, .val (.int p5), .val (.ref b1_), .val (.int mv), .unset, .unset, .unset, .unset, .unset, .unset] [])) tT
          refine XS.lload X3_.here hx rfl (Jvm.hb hby at_78) rfl ?_
          show Steps pP.tables eE below (T3_.setTop (mkF mM 80 #[.val (.long q1), .second, .val (.long q2), .second, .val (.long q3), .second, .val (.long q4), .second, .val (.int p5), .val (.ref b1_), .val (.int mv), .unset, .unset, .unset, .unset, .unset, .unset] [(.long q3)])) tT
          refine XS.lstore X3_.here hx rfl (Jvm.hb hby at_80) rfl (l' := #[.val (.long q1), .second, .val (.long q2), .second, .val (.long q3), .second, .val (.long q4), .second, .val (.int p5), .val (.ref b1_), .val (.int mv), .val (.long q3), .second, .unset, .unset, .unset, .unset]) rfl ?_
          show Steps pP.tables eE below (T3_.setTop (mkF mM 82 #[.val (.long q1), .second, .val (.long q2), .second, .val (.long q3), .second, .val (.long q4), .second, .val (.int p5), .val (.ref b1_), .val (.int mv), .val (.long q3), .second, .unset, .unset, .unset, .unset] [])) tT
          refine XS.lload X3_.here hx rfl (Jvm.hb hby at_82) rfl ?_
          show Steps pP.tables eE below (T3_.setTop (mkF mM 84 #[.val (.long q1), .second, .val (.long q2), .second, .val (.long q3), .second, .val (.long q4), .second, .val (.int p5), .val (.ref b1_), .val (.int mv), .val (.long q3), .second, .unset, .unset, .unset, .unset] [(.long q4)])) tT
          refine XS.lstore X3_.here hx rfl (Jvm.hb hby at_84) rfl (l' := #[.val (.long q1), .second, .val (.long q2), .second, .val (.long q3), .second, .val (.long q4), .second, .val (.int p5), .val (.ref b1_), .val (.int mv), .val (.long q3), .second, .val (.long q4), .second, .unset, .unset]) rfl ?_
          show Steps pP.tables eE below (T3_.setTop (mkF mM 86 #[.val (.long q1), .second, .val (.long q2), .second, .val (.long q3), .second, .val (.long q4), .second, .val (.int p5), .val (.ref b1_), .val (.int mv), .val (.long q3), .second, .val (.long q4), .second, .unset, .unset] [])) tT
          refine XS.iload X3_.here hx rfl (Jvm.hb hby at_86) rfl ?_
          show Steps pP.tables eE below (T3_.setTop (mkF mM 88 #[.val (.long q1), .second, .val (.long q2), .second, .val (.long q3), .second, .val (.long q4), .second, .val (.int p5), .val (.ref b1_), .val (.int mv), .val (.long q3), .second, .val (.long q4), .second, .unset, .unset] [(.int mv)])) tT
          refine XS.iconst X3_.here hx rfl (Jvm.hb hby at_88) ?_
          show Steps pP.tables eE below (T3_.setTop (mkF mM 89 #[.val (.long q1), .second, .val (.long q2), .second, .val (.long q3), .second, .val (.long q4), .second, .val (.int p5), .val (.ref b1_), .val (.int mv), .val (.long q3), .second, .val (.long q4), .second, .unset, .unset] [(.int (1 : Int32)), (.int mv)])) tT
          exact kK
        obtain ⟨fa, st17_⟩ : ∃ fa : Int64, ∀ tT, Steps pP.tables eE below (T3_.setTop (mkF mM 101 #[.val (.long q1), .second, .val (.long q2), .second, .val (.long q3), .second, .val (.long q4), .second, .val (.int p5), .val (.ref b1_), .val (.int mv), .val (.long fa), .second, .val (.long q4), .second, .unset, .unset] [])) tT → Steps pP.tables eE below (T3_.setTop (mkF mM 89 #[.val (.long q1), .second, .val (.long q2), .second, .val (.long q3), .second, .val (.long q4), .second, .val (.int p5), .val (.ref b1_), .val (.int mv), .val (.long q3), .second, .val (.long q4), .second, .unset, .unset] [(.int (1 : Int32)), (.int mv)])) tT := by
          by_cases hm1 : mv = (1 : Int32)
          · refine ⟨q1, fun tT kK => ?_⟩
            refine XS.icmpYes X3_.here hx rfl (pc0 := 89) (pc' := 98) rfl (Jvm.hb hby at_89) rfl (teq (hm1 : mv = (1 : Int32))).1 (by decide) (by decide) ?_
            show Steps pP.tables eE below (T3_.setTop (mkF mM 98 #[.val (.long q1), .second, .val (.long q2), .second, .val (.long q3), .second, .val (.long q4), .second, .val (.int p5), .val (.ref b1_), .val (.int mv), .val (.long q3), .second, .val (.long q4), .second, .unset, .unset] [])) tT
            refine XS.lloadN X3_.here hx rfl (Jvm.hb hby at_98) rfl ?_
            show Steps pP.tables eE below (T3_.setTop (mkF mM 99 #[.val (.long q1), .second, .val (.long q2), .second, .val (.long q3), .second, .val (.long q4), .second, .val (.int p5), .val (.ref b1_), .val (.int mv), .val (.long q3), .second, .val (.long q4), .second, .unset, .unset] [(.long q1)])) tT
            refine XS.lstore X3_.here hx rfl (Jvm.hb hby at_99) rfl (l' := #[.val (.long q1), .second, .val (.long q2), .second, .val (.long q3), .second, .val (.long q4), .second, .val (.int p5), .val (.ref b1_), .val (.int mv), .val (.long q1), .second, .val (.long q4), .second, .unset, .unset]) rfl ?_
            show Steps pP.tables eE below (T3_.setTop (mkF mM 101 #[.val (.long q1), .second, .val (.long q2), .second, .val (.long q3), .second, .val (.long q4), .second, .val (.int p5), .val (.ref b1_), .val (.int mv), .val (.long q1), .second, .val (.long q4), .second, .unset, .unset] [])) tT
            exact kK
          · by_cases hm2 : mv = (3 : Int32)
            · refine ⟨q1, fun tT kK => ?_⟩
              refine XS.icmpNo X3_.here hx rfl (Jvm.hb hby at_89) rfl (feq (hm1 : ¬ (mv = (1 : Int32)))).1 ?_
              show Steps pP.tables eE below (T3_.setTop (mkF mM 92 #[.val (.long q1), .second, .val (.long q2), .second, .val (.long q3), .second, .val (.long q4), .second, .val (.int p5), .val (.ref b1_), .val (.int mv), .val (.long q3), .second, .val (.long q4), .second, .unset, .unset] [])) tT
              refine XS.iload X3_.here hx rfl (Jvm.hb hby at_92) rfl ?_
              show Steps pP.tables eE below (T3_.setTop (mkF mM 94 #[.val (.long q1), .second, .val (.long q2), .second, .val (.long q3), .second, .val (.long q4), .second, .val (.int p5), .val (.ref b1_), .val (.int mv), .val (.long q3), .second, .val (.long q4), .second, .unset, .unset] [(.int mv)])) tT
              refine XS.iconst X3_.here hx rfl (Jvm.hb hby at_94) ?_
              show Steps pP.tables eE below (T3_.setTop (mkF mM 95 #[.val (.long q1), .second, .val (.long q2), .second, .val (.long q3), .second, .val (.long q4), .second, .val (.int p5), .val (.ref b1_), .val (.int mv), .val (.long q3), .second, .val (.long q4), .second, .unset, .unset] [(.int (3 : Int32)), (.int mv)])) tT
              refine XS.icmpNo X3_.here hx rfl (Jvm.hb hby at_95) rfl (teq (hm2 : mv = (3 : Int32))).2 ?_
              show Steps pP.tables eE below (T3_.setTop (mkF mM 98 #[.val (.long q1), .second, .val (.long q2), .second, .val (.long q3), .second, .val (.long q4), .second, .val (.int p5), .val (.ref b1_), .val (.int mv), .val (.long q3), .second, .val (.long q4), .second, .unset, .unset] [])) tT
              refine XS.lloadN X3_.here hx rfl (Jvm.hb hby at_98) rfl ?_
              show Steps pP.tables eE below (T3_.setTop (mkF mM 99 #[.val (.long q1), .second, .val (.long q2), .second, .val (.long q3), .second, .val (.long q4), .second, .val (.int p5), .val (.ref b1_), .val (.int mv), .val (.long q3), .second, .val (.long q4), .second, .unset, .unset] [(.long q1)])) tT
              refine XS.lstore X3_.here hx rfl (Jvm.hb hby at_99) rfl (l' := #[.val (.long q1), .second, .val (.long q2), .second, .val (.long q3), .second, .val (.long q4), .second, .val (.int p5), .val (.ref b1_), .val (.int mv), .val (.long q1), .second, .val (.long q4), .second, .unset, .unset]) rfl ?_
              show Steps pP.tables eE below (T3_.setTop (mkF mM 101 #[.val (.long q1), .second, .val (.long q2), .second, .val (.long q3), .second, .val (.long q4), .second, .val (.int p5), .val (.ref b1_), .val (.int mv), .val (.long q1), .second, .val (.long q4), .second, .unset, .unset] [])) tT
              exact kK
            · refine ⟨q3, fun tT kK => ?_⟩
              refine XS.icmpNo X3_.here hx rfl (Jvm.hb hby at_89) rfl (feq (hm1 : ¬ (mv = (1 : Int32)))).1 ?_
              show Steps pP.tables eE below (T3_.setTop (mkF mM 92 #[.val (.long q1), .second, .val (.long q2), .second, .val (.long q3), .second, .val (.long q4), .second, .val (.int p5), .val (.ref b1_), .val (.int mv), .val (.long q3), .second, .val (.long q4), .second, .unset, .unset] [])) tT
              refine XS.iload X3_.here hx rfl (Jvm.hb hby at_92) rfl ?_
              show Steps pP.tables eE below (T3_.setTop (mkF mM 94 #[.val (.long q1), .second, .val (.long q2), .second, .val (.long q3), .second, .val (.long q4), .second, .val (.int p5), .val (.ref b1_), .val (.int mv), .val (.long q3), .second, .val (.long q4), .second, .unset, .unset] [(.int mv)])) tT
              refine XS.iconst X3_.here hx rfl (Jvm.hb hby at_94) ?_
              show Steps pP.tables eE below (T3_.setTop (mkF mM 95 #[.val (.long q1), .second, .val (.long q2), .second, .val (.long q3), .second, .val (.long q4), .second, .val (.int p5), .val (.ref b1_), .val (.int mv), .val (.long q3), .second, .val (.long q4), .second, .unset, .unset] [(.int (3 : Int32)), (.int mv)])) tT
              refine XS.icmpYes X3_.here hx rfl (pc0 := 95) (pc' := 101) rfl (Jvm.hb hby at_95) rfl (feq (hm2 : ¬ (mv = (3 : Int32)))).2 (by decide) (by decide) ?_
              show Steps pP.tables eE below (T3_.setTop (mkF mM 101 #[.val (.long q1), .second, .val (.long q2), .second, .val (.long q3), .second, .val (.long q4), .second, .val (.int p5), .val (.ref b1_), .val (.int mv), .val (.long q3), .second, .val (.long q4), .second, .unset, .unset] [])) tT
              exact kK
        refine own_fin st17_ ?_
        show own_Fin pP eE below _ (T3_.setTop (mkF mM 101 #[.val (.long q1), .second, .val (.long q2), .second, .val (.long q3), .second, .val (.long q4), .second, .val (.int p5), .val (.ref b1_), .val (.int mv), .val (.long fa), .second, .val (.long q4), .second, .unset, .unset] []))
        refine own_fin (b := T3_.setTop (mkF mM 104 #[.val (.long q1), .second, .val (.long q2), .second, .val (.long q3), .second, .val (.long q4), .second, .val (.int p5), .val (.ref b1_), .val (.int mv), .val (.long fa), .second, .val (.long q4), .second, .unset, .unset] [(.int (2 : Int32)), (.int mv)])) (fun tT kK => ?_) ?_
        · show Steps pP.tables eE below (T3_.setTop (mkF mM 101 #[.val (.long q1), .second, .val (.long q2), .second, .val (.long q3), .second, .val (.long q4), .second, .val (.int p5), .val (.ref b1_), .val (.int mv), .val (.long fa), .second, .val (.long q4), .second, .unset, .unset] [])) tT
          refine XS.iload X3_.here hx rfl (Jvm.hb hby at_101) rfl ?_
          show Steps pP.tables eE below (T3_.setTop (mkF mM 103 #[.val (.long q1), .second, .val (.long q2), .second, .val (.long q3), .second, .val (.long q4), .second, .val (.int p5), .val (.ref b1_), .val (.int mv), .val (.long fa), .second, .val (.long q4), .second, .unset, .unset] [(.int mv)])) tT
          refine XS.iconst X3_.here hx rfl (Jvm.hb hby at_103) ?_
          show Steps pP.tables eE below (T3_.setTop (mkF mM 104 #[.val (.long q1), .second, .val (.long q2), .second, .val (.long q3), .second, .val (.long q4), .second, .val (.int p5), .val (.ref b1_), .val (.int mv), .val (.long fa), .second, .val (.long q4), .second, .unset, .unset] [(.int (2 : Int32)), (.int mv)])) tT
          exact kK
        obtain ⟨fb, st18_⟩ : ∃ fb : Int64, ∀ tT, Steps pP.tables eE below (T3_.setTop (mkF mM 116 #[.val (.long q1), .second, .val (.long q2), .second, .val (.long q3), .second, .val (.long q4), .second, .val (.int p5), .val (.ref b1_), .val (.int mv), .val (.long fa), .second, .val (.long fb), .second, .unset, .unset] [])) tT → Steps pP.tables eE below (T3_.setTop (mkF mM 104 #[.val (.long q1), .second, .val (.long q2), .second, .val (.long q3), .second, .val (.long q4), .second, .val (.int p5), .val (.ref b1_), .val (.int mv), .val (.long fa), .second, .val (.long q4), .second, .unset, .unset] [(.int (2 : Int32)), (.int mv)])) tT := by
          by_cases hm1 : mv = (2 : Int32)
          · refine ⟨q2, fun tT kK => ?_⟩
            refine XS.icmpYes X3_.here hx rfl (pc0 := 104) (pc' := 113) rfl (Jvm.hb hby at_104) rfl (teq (hm1 : mv = (2 : Int32))).1 (by decide) (by decide) ?_
            show Steps pP.tables eE below (T3_.setTop (mkF mM 113 #[.val (.long q1), .second, .val (.long q2), .second, .val (.long q3), .second, .val (.long q4), .second, .val (.int p5), .val (.ref b1_), .val (.int mv), .val (.long fa), .second, .val (.long q4), .second, .unset, .unset] [])) tT
            refine XS.lloadN X3_.here hx rfl (Jvm.hb hby at_113) rfl ?_
            show Steps pP.tables eE below (T3_.setTop (mkF mM 114 #[.val (.long q1), .second, .val (.long q2), .second, .val (.long q3), .second, .val (.long q4), .second, .val (.int p5), .val (.ref b1_), .val (.int mv), .val (.long fa), .second, .val (.long q4), .second, .unset, .unset] [(.long q2)])) tT
            refine XS.lstore X3_.here hx rfl (Jvm.hb hby at_114) rfl (l' := #[.val (.long q1), .second, .val (.long q2), .second, .val (.long q3), .second, .val (.long q4), .second, .val (.int p5), .val (.ref b1_), .val (.int mv), .val (.long fa), .second, .val (.long q2), .second, .unset, .unset]) rfl ?_
            show Steps pP.tables eE below (T3_.setTop (mkF mM 116 #[.val (.long q1), .second, .val (.long q2), .second, .val (.long q3), .second, .val (.long q4), .second, .val (.int p5), .val (.ref b1_), .val (.int mv), .val (.long fa), .second, .val (.long q2), .second, .unset, .unset] [])) tT
            exact kK
          · by_cases hm2 : mv = (3 : Int32)
            · refine ⟨q2, fun tT kK => ?_⟩
              refine XS.icmpNo X3_.here hx rfl (Jvm.hb hby at_104) rfl (feq (hm1 : ¬ (mv = (2 : Int32)))).1 ?_
              show Steps pP.tables eE below (T3_.setTop (mkF mM 107 #[.val (.long q1), .second, .val (.long q2), .second, .val (.long q3), .second, .val (.long q4), .second, .val (.int p5), .val (.ref b1_), .val (.int mv), .val (.long fa), .second, .val (.long q4), .second, .unset, .unset] [])) tT
              refine XS.iload X3_.here hx rfl (Jvm.hb hby at_107) rfl ?_
              show Steps pP.tables eE below (T3_.setTop (mkF mM 109 #[.val (.long q1), .second, .val (.long q2), .second, .val (.long q3), .second, .val (.long q4), .second, .val (.int p5), .val (.ref b1_), .val (.int mv), .val (.long fa), .second, .val (.long q4), .second, .unset, .unset] [(.int mv)])) tT
              refine XS.iconst X3_.here hx rfl (Jvm.hb hby at_109) ?_
              show Steps pP.tables eE below (T3_.setTop (mkF mM 110 #[.val (.long q1), .second, .val (.long q2), .second, .val (.long q3), .second, .val (.long q4), .second, .val (.int p5), .val (.ref b1_), .val (.int mv), .val (.long fa), .second, .val (.long q4), .second, .unset, .unset] [(.int (3 : Int32)), (.int mv)])) tT
              refine XS.icmpNo X3_.here hx rfl (Jvm.hb hby at_110) rfl (teq (hm2 : mv = (3 : Int32))).2 ?_
              show Steps pP.tables eE below (T3_.setTop (mkF mM 113 #[.val (.long q1), .second, .val (.long q2), .second, .val (.long q3), .second, .val (.long q4), .second, .val (.int p5), .val (.ref b1_), .val (.int mv), .val (.long fa), .second, .val (.long q4), .second, .unset, .unset] [])) tT
              refine XS.lloadN X3_.here hx rfl (Jvm.hb hby at_113) rfl ?_
              show Steps pP.tables eE below (T3_.setTop (mkF mM 114 #[.val (.long q1), .second, .val (.long q2), .second, .val (.long q3), .second, .val (.long q4), .second, .val (.int p5), .val (.ref b1_), .val (.int mv), .val (.long fa), .second, .val (.long q4), .second, .unset, .unset] [(.long q2)])) tT
              refine XS.lstore X3_.here hx rfl (Jvm.hb hby at_114) rfl (l' := #[.val (.long q1), .second, .val (.long q2), .second, .val (.long q3), .second, .val (.long q4), .second, .val (.int p5), .val (.ref b1_), .val (.int mv), .val (.long fa), .second, .val (.long q2), .second, .unset, .unset]) rfl ?_
              show Steps pP.tables eE below (T3_.setTop (mkF mM 116 #[.val (.long q1), .second, .val (.long q2), .second, .val (.long q3), .second, .val (.long q4), .second, .val (.int p5), .val (.ref b1_), .val (.int mv), .val (.long fa), .second, .val (.long q2), .second, .unset, .unset] [])) tT
              exact kK
            · refine ⟨q4, fun tT kK => ?_⟩
              refine XS.icmpNo X3_.here hx rfl (Jvm.hb hby at_104) rfl (feq (hm1 : ¬ (mv = (2 : Int32)))).1 ?_
              show Steps pP.tables eE below (T3_.setTop (mkF mM 107 #[.val (.long q1), .second, .val (.long q2), .second, .val (.long q3), .second, .val (.long q4), .second, .val (.int p5), .val (.ref b1_), .val (.int mv), .val (.long fa), .second, .val (.long q4), .second, .unset, .unset] [])) tT
              refine XS.iload X3_.here hx rfl (Jvm.hb hby at_107) rfl ?_
              show Steps pP.tables eE below (T3_.setTop (mkF mM 109 #[.val (.long q1), .second, .val (.long q2), .second, .val (.long q3), .second, .val (.long q4), .second, .val (.int p5), .val (.ref b1_), .val (.int mv), .val (.long fa), .second, .val (.long q4), .second, .unset, .unset] [(.int mv)])) tT
              refine XS.iconst X3_.here hx rfl (Jvm.hb hby at_109) ?_
              show Steps pP.tables eE below (T3_.setTop (mkF mM 110 #[.val (.long q1), .second, .val (.long q2), .second, .val (.long q3), .second, .val (.long q4), .second, .val (.int p5), .val (.ref b1_), .val (.int mv), .val (.long fa), .second, .val (.long q4), .second, .unset, .unset] [(.int (3 : Int32)), (.int mv)])) tT
              refine XS.icmpYes X3_.here hx rfl (pc0 := 110) (pc' := 116) rfl (Jvm.hb hby at_110) rfl (feq (hm2 : ¬ (mv = (3 : Int32)))).2 (by decide) (by decide) ?_
              show Steps pP.tables eE below (T3_.setTop (mkF mM 116 #[.val (.long q1), .second, .val (.long q2), .second, .val (.long q3), .second, .val (.long q4), .second, .val (.int p5), .val (.ref b1_), .val (.int mv), .val (.long fa), .second, .val (.long q4), .second, .unset, .unset] [])) tT
              exact kK
        refine own_fin st18_ ?_
        show own_Fin pP eE below _ (T3_.setTop (mkF mM 116 #[.val (.long q1), .second, .val (.long q2), .second, .val (.long q3), .second, .val (.long q4), .second, .val (.int p5), .val (.ref b1_), .val (.int mv), .val (.long fa), .second, .val (.long fb), .second, .unset, .unset] []))
        obtain ⟨T19_, h19_, X19_, e19_, E19_, A19_, D19_, -, st19_⟩ := newO X3_ hx hZ hown (hw _ (List.mem_of_getElem? (i := 0) rfl)) (hw _ (List.mem_of_getElem? (i := 1) rfl)) (hw _ (List.mem_of_getElem? (i := 2) rfl)) rfl (g := (mkF mM 116 #[.val (.long q1), .second, .val (.long q2), .second, .val (.long q3), .second, .val (.long q4), .second, .val (.int p5), .val (.ref b1_), .val (.int mv), .val (.long fa), .second, .val (.long fb), .second, .unset, .unset] [])) rfl (Jvm.hb hby at_116) (by decide) (by decide)
        obtain ⟨b19_, g19_⟩ : ∃ z, z = T3_.heap.size := ⟨_, rfl⟩
        rw [← g19_] at A19_ D19_ st19_
        have sz_b19_ : h0.size ≤ b19_ := Nat.le_trans K3_.1 (Nat.le_of_eq g19_.symm)
        have ge_b19_ : n0 ≤ b19_ := Nat.le_trans Z0 sz_b19_
        have ne20_ : b1_ ≠ b19_ := Nat.ne_of_lt (Nat.lt_of_lt_of_le p3__1.lt (Nat.le_of_eq g19_.symm))
        have fc21_ := fc4_.ext E19_
        have fc22_ := p3__1.ext E19_
        have fc23_ := p3__2.ext E19_
        have fc24_ := p3__3.ext E19_
        have K19_ := K3_.ext E19_
        have F19__floor : Fld Z h19_ b19_ "com/example/epoch/epoch/Trimmed" "floor" "J" (.long (0 : Int64)) := D19_ (Or.inr (hw _ (List.mem_of_getElem? (i := 10) rfl))) (ty := .long) (by decide)
        have F19__removed : Fld Z h19_ b19_ "com/example/epoch/epoch/Trimmed" "removed" "J" (.long (0 : Int64)) := D19_ (Or.inr (hw _ (List.mem_of_getElem? (i := 12) rfl))) (ty := .long) (by decide)
        refine own_fin st19_ ?_
        show own_Fin pP eE below _ (T19_.setTop (mkF mM 119 #[.val (.long q1), .second, .val (.long q2), .second, .val (.long q3), .second, .val (.long q4), .second, .val (.int p5), .val (.ref b1_), .val (.int mv), .val (.long fa), .second, .val (.long fb), .second, .unset, .unset] [(.ref b19_)]))
        refine own_fin (b := T19_.setTop (mkF mM 124 #[.val (.long q1), .second, .val (.long q2), .second, .val (.long q3), .second, .val (.long q4), .second, .val (.int p5), .val (.ref b1_), .val (.int mv), .val (.long fa), .second, .val (.long fb), .second, .unset, .unset] [(.long fb), (.long fa), (.ref b19_), (.ref b19_)])) (fun tT kK => ?_) ?_
        · show Steps pP.tables eE below (T19_.setTop (mkF mM 119 #[.val (.long q1), .second, .val (.long q2), .second, .val (.long q3), .second, .val (.long q4), .second, .val (.int p5), .val (.ref b1_), .val (.int mv), .val (.long fa), .second, .val (.long fb), .second, .unset, .unset] [(.ref b19_)])) tT
          refine XS.dup X19_.here hx rfl (Jvm.hb hby at_119) rfl rfl ?_
          show Steps pP.tables eE below (T19_.setTop (mkF mM 120 #[.val (.long q1), .second, .val (.long q2), .second, .val (.long q3), .second, .val (.long q4), .second, .val (.int p5), .val (.ref b1_), .val (.int mv), .val (.long fa), .second, .val (.long fb), .second, .unset, .unset] [(.ref b19_), (.ref b19_)])) tT
          refine XS.lload X19_.here hx rfl (Jvm.hb hby at_120) rfl ?_
          show Steps pP.tables eE below (T19_.setTop (mkF mM 122 #[.val (.long q1), .second, .val (.long q2), .second, .val (.long q3), .second, .val (.long q4), .second, .val (.int p5), .val (.ref b1_), .val (.int mv), .val (.long fa), .second, .val (.long fb), .second, .unset, .unset] [(.long fa), (.ref b19_), (.ref b19_)])) tT
          refine XS.lload X19_.here hx rfl (Jvm.hb hby at_122) rfl ?_
          show Steps pP.tables eE below (T19_.setTop (mkF mM 124 #[.val (.long q1), .second, .val (.long q2), .second, .val (.long q3), .second, .val (.long q4), .second, .val (.int p5), .val (.ref b1_), .val (.int mv), .val (.long fa), .second, .val (.long fb), .second, .unset, .unset] [(.long fb), (.long fa), (.ref b19_), (.ref b19_)])) tT
          exact kK
        obtain ⟨_, _, ⟨T25_, L25_, k25_, n25_⟩, -, X25_, ⟨Lc25_, hQ25_, l25_, y25_, z25_⟩, st25_⟩ := X19_.specialBack hx (y := (⟨"com/example/epoch/epoch/Trimmed", "<init>", "(JJ)V"⟩ : MethodName)) rfl hown (mvT hZ (hw _ (List.mem_of_getElem? (i := 3) rfl))) (mvT hZ (hw _ (List.mem_of_getElem? (i := 4) rfl))) (mvT hZ (hw _ (List.mem_of_getElem? (i := 5) rfl))) (by decide) (backOf (W := 1) (rm_trim lL Z a0 hw [] b19_ fa fb h19_ n0 (Nat.le_trans Z0 K19_.1) A19_ F19__floor F19__removed ge_b19_) hZ (hw _ (List.mem_of_getElem? (i := 5) rfl)) (hw _ (List.mem_of_getElem? (i := 2) rfl)) (by decide) (by decide)) (g := (mkF mM 124 #[.val (.long q1), .second, .val (.long q2), .second, .val (.long q3), .second, .val (.long q4), .second, .val (.int p5), .val (.ref b1_), .val (.int mv), .val (.long fa), .second, .val (.long fb), .second, .unset, .unset] [(.long fb), (.long fa), (.ref b19_), (.ref b19_)])) rfl (by rw [hml]; rfl) (Steps.refl _) (a := b19_) (argsL := [(.long fa), (.long fb)]) (rest := [(.ref b19_)]) (lenOf own_pd2 rfl) rfl (by show 2 * 0 + _ ≤ _; exact Nat.le_of_eq rfl) (Jvm.hb hby at_124) (fun _ _ => ⟨rfl, e19_, (by decide : 2 + 0 ≤ _), (by decide : 4 + 0 ≤ _)⟩)
        dsimp only [Pt.U, Pt.locs, Pt.cells, Pt.slots] at X25_ l25_ y25_ z25_ st25_ hQ25_
        subst l25_ y25_ z25_
        obtain ⟨rfl, N25_q, p25__0, p25__1, p25__2, p25__3⟩ := hQ25_
        have N25_ := Fr.app N3_ N25_q
        have fc26_ := fc21_.keep p25__0 (allS ge_b19_ all0)
        have fc27_ := fc22_.keep p25__0
        have fc28_ := fc23_.keep p25__0 (ninS ne20_ nin0)
        have fc29_ := fc24_.keep p25__0 (ninS ne20_ nin0)
        have fc30_ := A19_.keep p25__0
        have K25_ := K19_.trans p25__0 (allS (Or.inr sz_b19_) all0)
        refine own_fin (fun tT kK => st25_.trans kK) ?_
        show own_Fin pP eE below _ (T25_.setTop (mkF mM 127 #[.val (.long q1), .second, .val (.long q2), .second, .val (.long q3), .second, .val (.long q4), .second, .val (.int p5), .val (.ref b1_), .val (.int mv), .val (.long fa), .second, .val (.long fb), .second, .unset, .unset] [(.ref b19_)]))
        refine own_fin (b := T25_.setTop (mkF mM 133 #[.val (.long q1), .second, .val (.long q2), .second, .val (.long q3), .second, .val (.long q4), .second, .val (.int p5), .val (.ref b1_), .val (.int mv), .val (.long fa), .second, .val (.long fb), .second, .val (.ref b19_), .unset] [(.int (lcmpW fa q1))])) (fun tT kK => ?_) ?_
        · show Steps pP.tables eE below (T25_.setTop (mkF mM 127 #[.val (.long q1), .second, .val (.long q2), .second, .val (.long q3), .second, .val (.long q4), .second, .val (.int p5), .val (.ref b1_), .val (.int mv), .val (.long fa), .second, .val (.long fb), .second, .unset, .unset] [(.ref b19_)])) tT
          refine XS.astore X25_.here hx rfl (Jvm.hb hby at_127) rfl rfl (l' := #[.val (.long q1), .second, .val (.long q2), .second, .val (.long q3), .second, .val (.long q4), .second, .val (.int p5), .val (.ref b1_), .val (.int mv), .val (.long fa), .second, .val (.long fb), .second, .val (.ref b19_), .unset]) rfl ?_
          show Steps pP.tables eE below (T25_.setTop (mkF mM 129 #[.val (.long q1), .second, .val (.long q2), .second, .val (.long q3), .second, .val (.long q4), .second, .val (.int p5), .val (.ref b1_), .val (.int mv), .val (.long fa), .second, .val (.long fb), .second, .val (.ref b19_), .unset] [])) tT
          refine XS.lload X25_.here hx rfl (Jvm.hb hby at_129) rfl ?_
          show Steps pP.tables eE below (T25_.setTop (mkF mM 131 #[.val (.long q1), .second, .val (.long q2), .second, .val (.long q3), .second, .val (.long q4), .second, .val (.int p5), .val (.ref b1_), .val (.int mv), .val (.long fa), .second, .val (.long fb), .second, .val (.ref b19_), .unset] [(.long fa)])) tT
          refine XS.lloadN X25_.here hx rfl (Jvm.hb hby at_131) rfl ?_
          show Steps pP.tables eE below (T25_.setTop (mkF mM 132 #[.val (.long q1), .second, .val (.long q2), .second, .val (.long q3), .second, .val (.long q4), .second, .val (.int p5), .val (.ref b1_), .val (.int mv), .val (.long fa), .second, .val (.long fb), .second, .val (.ref b19_), .unset] [(.long q1), (.long fa)])) tT
          refine XS.lcmp X25_.here hx rfl (Jvm.hb hby at_132) rfl ?_
          show Steps pP.tables eE below (T25_.setTop (mkF mM 133 #[.val (.long q1), .second, .val (.long q2), .second, .val (.long q3), .second, .val (.long q4), .second, .val (.int p5), .val (.ref b1_), .val (.int mv), .val (.long fa), .second, .val (.long fb), .second, .val (.ref b19_), .unset] [(.int (lcmpW fa q1))])) tT
          exact kK
        obtain ⟨ex, hex, st31_⟩ : ∃ ex : Int32, (ex = (if fa = q1 then (if fb = q2 then (1 : Int32) else (0 : Int32)) else (0 : Int32))) ∧ ∀ tT, Steps pP.tables eE below (T25_.setTop (mkF mM 148 #[.val (.long q1), .second, .val (.long q2), .second, .val (.long q3), .second, .val (.long q4), .second, .val (.int p5), .val (.ref b1_), .val (.int mv), .val (.long fa), .second, .val (.long fb), .second, .val (.ref b19_), .unset] [(.int ex)])) tT → Steps pP.tables eE below (T25_.setTop (mkF mM 133 #[.val (.long q1), .second, .val (.long q2), .second, .val (.long q3), .second, .val (.long q4), .second, .val (.int p5), .val (.ref b1_), .val (.int mv), .val (.long fa), .second, .val (.long fb), .second, .val (.ref b19_), .unset] [(.int (lcmpW fa q1))])) tT := by
          by_cases hm1 : fa = q1
          · by_cases hm2 : fb = q2
            · refine ⟨(1 : Int32), by rw [if_pos hm1, if_pos hm2], fun tT kK => ?_⟩
              refine XS.ifNo X25_.here hx rfl (Jvm.hb hby at_133) rfl ((if0 _ _).trans (teq ((lw_eq fa q1).mpr (hm1 : fa = q1))).2) ?_
              show Steps pP.tables eE below (T25_.setTop (mkF mM 136 #[.val (.long q1), .second, .val (.long q2), .second, .val (.long q3), .second, .val (.long q4), .second, .val (.int p5), .val (.ref b1_), .val (.int mv), .val (.long fa), .second, .val (.long fb), .second, .val (.ref b19_), .unset] [])) tT
              refine XS.lload X25_.here hx rfl (Jvm.hb hby at_136) rfl ?_
              show Steps pP.tables eE below (T25_.setTop (mkF mM 138 #[.val (.long q1), .second, .val (.long q2), .second, .val (.long q3), .second, .val (.long q4), .second, .val (.int p5), .val (.ref b1_), .val (.int mv), .val (.long fa), .second, .val (.long fb), .second, .val (.ref b19_), .unset] [(.long fb)])) tT
              refine XS.lloadN X25_.here hx rfl (Jvm.hb hby at_138) rfl ?_
              show Steps pP.tables eE below (T25_.setTop (mkF mM 139 #[.val (.long q1), .second, .val (.long q2), .second, .val (.long q3), .second, .val (.long q4), .second, .val (.int p5), .val (.ref b1_), .val (.int mv), .val (.long fa), .second, .val (.long fb), .second, .val (.ref b19_), .unset] [(.long q2), (.long fb)])) tT
              refine XS.lcmp X25_.here hx rfl (Jvm.hb hby at_139) rfl ?_
              show Steps pP.tables eE below (T25_.setTop (mkF mM 140 #[.val (.long q1), .second, .val (.long q2), .second, .val (.long q3), .second, .val (.long q4), .second, .val (.int p5), .val (.ref b1_), .val (.int mv), .val (.long fa), .second, .val (.long fb), .second, .val (.ref b19_), .unset] [(.int (lcmpW fb q2))])) tT
              refine XS.ifNo X25_.here hx rfl (Jvm.hb hby at_140) rfl ((if0 _ _).trans (teq ((lw_eq fb q2).mpr (hm2 : fb = q2))).2) ?_
              show Steps pP.tables eE below (T25_.setTop (mkF mM 143 #[.val (.long q1), .second, .val (.long q2), .second, .val (.long q3), .second, .val (.long q4), .second, .val (.int p5), .val (.ref b1_), .val (.int mv), .val (.long fa), .second, .val (.long fb), .second, .val (.ref b19_), .unset] [])) tT
              refine XS.iconst X25_.here hx rfl (Jvm.hb hby at_143) ?_
              show Steps pP.tables eE below (T25_.setTop (mkF mM 144 #[.val (.long q1), .second, .val (.long q2), .second, .val (.long q3), .second, .val (.long q4), .second, .val (.int p5), .val (.ref b1_), .val (.int mv), .val (.long fa), .second, .val (.long fb), .second, .val (.ref b19_), .unset] [(.int (1 : Int32))])) tT
              refine XS.goto X25_.here hx rfl (pc0 := 144) (pc' := 148) rfl (Jvm.hb hby at_144) (by decide) (by decide) ?_
              show Steps pP.tables eE below (T25_.setTop (mkF mM 148 #[.val (.long q1), .second, .val (.long q2), .second, .val (.long q3), .second, .val (.long q4), .second, .val (.int p5), .val (.ref b1_), .val (.int mv), .val (.long fa), .second, .val (.long fb), .second, .val (.ref b19_), .unset] [(.int (1 : Int32))])) tT
              exact kK
            · refine ⟨(0 : Int32), by rw [if_pos hm1, if_neg hm2], fun tT kK => ?_⟩
              refine XS.ifNo X25_.here hx rfl (Jvm.hb hby at_133) rfl ((if0 _ _).trans (teq ((lw_eq fa q1).mpr (hm1 : fa = q1))).2) ?_
              show Steps pP.tables eE below (T25_.setTop (mkF mM 136 #[.val (.long q1), .second, .val (.long q2), .second, .val (.long q3), .second, .val (.long q4), .second, .val (.int p5), .val (.ref b1_), .val (.int mv), .val (.long fa), .second, .val (.long fb), .second, .val (.ref b19_), .unset] [])) tT
              refine XS.lload X25_.here hx rfl (Jvm.hb hby at_136) rfl ?_
              show Steps pP.tables eE below (T25_.setTop (mkF mM 138 #[.val (.long q1), .second, .val (.long q2), .second, .val (.long q3), .second, .val (.long q4), .second, .val (.int p5), .val (.ref b1_), .val (.int mv), .val (.long fa), .second, .val (.long fb), .second, .val (.ref b19_), .unset] [(.long fb)])) tT
              refine XS.lloadN X25_.here hx rfl (Jvm.hb hby at_138) rfl ?_
              show Steps pP.tables eE below (T25_.setTop (mkF mM 139 #[.val (.long q1), .second, .val (.long q2), .second, .val (.long q3), .second, .val (.long q4), .second, .val (.int p5), .val (.ref b1_), .val (.int mv), .val (.long fa), .second, .val (.long fb), .second, .val (.ref b19_), .unset] [(.long q2), (.long fb)])) tT
              refine XS.lcmp X25_.here hx rfl (Jvm.hb hby at_139) rfl ?_
              show Steps pP.tables eE below (T25_.setTop (mkF mM 140 #[.val (.long q1), .second, .val (.long q2), .second, .val (.long q3), .second, .val (.long q4), .second, .val (.int p5), .val (.ref b1_), .val (.int mv), .val (.long fa), .second, .val (.long fb), .second, .val (.ref b19_), .unset] [(.int (lcmpW fb q2))])) tT
              refine XS.ifYes X25_.here hx rfl (pc0 := 140) (pc' := 147) rfl (Jvm.hb hby at_140) rfl ((if0 _ _).trans (feq (mt (lw_eq fb q2).mp (hm2 : ¬ (fb = q2)))).2) (by decide) (by decide) ?_
              show Steps pP.tables eE below (T25_.setTop (mkF mM 147 #[.val (.long q1), .second, .val (.long q2), .second, .val (.long q3), .second, .val (.long q4), .second, .val (.int p5), .val (.ref b1_), .val (.int mv), .val (.long fa), .second, .val (.long fb), .second, .val (.ref b19_), .unset] [])) tT
              refine XS.iconst X25_.here hx rfl (Jvm.hb hby at_147) ?_
              show Steps pP.tables eE below (T25_.setTop (mkF mM 148 #[.val (.long q1), .second, .val (.long q2), .second, .val (.long q3), .second, .val (.long q4), .second, .val (.int p5), .val (.ref b1_), .val (.int mv), .val (.long fa), .second, .val (.long fb), .second, .val (.ref b19_), .unset] [(.int (0 : Int32))])) tT
              exact kK
          · refine ⟨(0 : Int32), by rw [if_neg hm1], fun tT kK => ?_⟩
            refine XS.ifYes X25_.here hx rfl (pc0 := 133) (pc' := 147) rfl (Jvm.hb hby at_133) rfl ((if0 _ _).trans (feq (mt (lw_eq fa q1).mp (hm1 : ¬ (fa = q1)))).2) (by decide) (by decide) ?_
            show Steps pP.tables eE below (T25_.setTop (mkF mM 147 #[.val (.long q1), .second, .val (.long q2), .second, .val (.long q3), .second, .val (.long q4), .second, .val (.int p5), .val (.ref b1_), .val (.int mv), .val (.long fa), .second, .val (.long fb), .second, .val (.ref b19_), .unset] [])) tT
            refine XS.iconst X25_.here hx rfl (Jvm.hb hby at_147) ?_
            show Steps pP.tables eE below (T25_.setTop (mkF mM 148 #[.val (.long q1), .second, .val (.long q2), .second, .val (.long q3), .second, .val (.long q4), .second, .val (.int p5), .val (.ref b1_), .val (.int mv), .val (.long fa), .second, .val (.long fb), .second, .val (.ref b19_), .unset] [(.int (0 : Int32))])) tT
            exact kK
        refine own_fin st31_ ?_
        show own_Fin pP eE below _ (T25_.setTop (mkF mM 148 #[.val (.long q1), .second, .val (.long q2), .second, .val (.long q3), .second, .val (.long q4), .second, .val (.int p5), .val (.ref b1_), .val (.int mv), .val (.long fa), .second, .val (.long fb), .second, .val (.ref b19_), .unset] [(.int ex)]))
        refine own_fin (b := T25_.setTop (mkF mM 154 #[.val (.long q1), .second, .val (.long q2), .second, .val (.long q3), .second, .val (.long q4), .second, .val (.int p5), .val (.ref b1_), .val (.int mv), .val (.long fa), .second, .val (.long fb), .second, .val (.ref b19_), .val (.int ex)] [(.ref b19_), (.ref b1_)])) (fun tT kK => ?_) ?_
        · show Steps pP.tables eE below (T25_.setTop (mkF mM 148 #[.val (.long q1), .second, .val (.long q2), .second, .val (.long q3), .second, .val (.long q4), .second, .val (.int p5), .val (.ref b1_), .val (.int mv), .val (.long fa), .second, .val (.long fb), .second, .val (.ref b19_), .unset] [(.int ex)])) tT
          refine XS.istore X25_.here hx rfl (Jvm.hb hby at_148) rfl (l' := #[.val (.long q1), .second, .val (.long q2), .second, .val (.long q3), .second, .val (.long q4), .second, .val (.int p5), .val (.ref b1_), .val (.int mv), .val (.long fa), .second, .val (.long fb), .second, .val (.ref b19_), .val (.int ex)]) rfl ?_
          show Steps pP.tables eE below (T25_.setTop (mkF mM 150 #[.val (.long q1), .second, .val (.long q2), .second, .val (.long q3), .second, .val (.long q4), .second, .val (.int p5), .val (.ref b1_), .val (.int mv), .val (.long fa), .second, .val (.long fb), .second, .val (.ref b19_), .val (.int ex)] [])) tT
          refine XS.aload X25_.here hx rfl (Jvm.hb hby at_150) rfl rfl ?_
          show Steps pP.tables eE below (T25_.setTop (mkF mM 152 #[.val (.long q1), .second, .val (.long q2), .second, .val (.long q3), .second, .val (.long q4), .second, .val (.int p5), .val (.ref b1_), .val (.int mv), .val (.long fa), .second, .val (.long fb), .second, .val (.ref b19_), .val (.int ex)] [(.ref b1_)])) tT
          refine XS.aload X25_.here hx rfl (Jvm.hb hby at_152) rfl rfl ?_
          show Steps pP.tables eE below (T25_.setTop (mkF mM 154 #[.val (.long q1), .second, .val (.long q2), .second, .val (.long q3), .second, .val (.long q4), .second, .val (.int p5), .val (.ref b1_), .val (.int mv), .val (.long fa), .second, .val (.long fb), .second, .val (.ref b19_), .val (.int ex)] [(.ref b19_), (.ref b1_)])) tT
          exact kK
        obtain ⟨cq32_, kq32_, q32_a, q32_b, q32_c⟩ := isOf hZ rfl fc27_
        obtain ⟨_, _, ⟨T32_, L32_, k32_, n32_⟩, -, X32_, ⟨Lc32_, hQ32_, l32_, y32_, z32_⟩, st32_⟩ := X25_.virtualBack hx (y := (⟨"com/example/epoch/epoch/Trimmed", "equals", "(Ljava/lang/Object;)Z"⟩ : MethodName)) (z := (⟨"com/example/epoch/epoch/Trimmed", "equals", "(Ljava/lang/Object;)Z"⟩ : MethodName)) hown (mvT hZ (hw _ (List.mem_of_getElem? (i := 13) rfl))) (mvT hZ (hw _ (List.mem_of_getElem? (i := 14) rfl))) (notFace_of_selects (args := #[]) (mvT hZ (hw _ (List.mem_of_getElem? (i := 16) rfl)))) (mvT hZ (hw _ (List.mem_of_getElem? (i := 16) rfl))) (mvT hZ (hw _ (List.mem_of_getElem? (i := 15) rfl))) (by decide) (backOf (W := 0) (rm_eq lL Z a0 hw [] b1_ b19_ q1 q2 fa fb T25_.heap n0 (Nat.le_trans Z0 K25_.1) p25__1 fc28_ fc29_ p25__2 p25__3) hZ (hw _ (List.mem_of_getElem? (i := 17) rfl)) (hw _ (List.mem_of_getElem? (i := 2) rfl)) (by decide) (by decide)) q32_a q32_c (g := (mkF mM 154 #[.val (.long q1), .second, .val (.long q2), .second, .val (.long q3), .second, .val (.long q4), .second, .val (.int p5), .val (.ref b1_), .val (.int mv), .val (.long fa), .second, .val (.long fb), .second, .val (.ref b19_), .val (.int ex)] [(.ref b19_), (.ref b1_)])) rfl (by rw [hml]; rfl) (Steps.refl _) (argsL := [(.ref b19_)]) (rest := []) (lenOf own_pd3 rfl) rfl (by show 2 * 0 + _ ≤ _; exact Nat.le_of_eq rfl) (Jvm.hb hby at_154) (fun _ _ => ⟨rfl, rfl, (by decide : 2 + 0 ≤ _), (by decide : 4 + 0 ≤ _)⟩)
        dsimp only [Pt.U, Pt.locs, Pt.cells, Pt.slots] at X32_ l32_ y32_ z32_ st32_ hQ32_
        subst l32_ y32_ z32_
        obtain ⟨rfl, N32_q, p32__0⟩ := hQ32_
        have N32_ := Fr.app N25_ N32_q
        refine own_fin (fun tT kK => st32_.trans kK) ?_
        show own_Fin pP eE below _ (T32_.setTop (mkF mM 157 #[.val (.long q1), .second, .val (.long q2), .second, .val (.long q3), .second, .val (.long q4), .second, .val (.int p5), .val (.ref b1_), .val (.int mv), .val (.long fa), .second, .val (.long fb), .second, .val (.ref b19_), .val (.int ex)] [(.int (if fa = q1 then (if fb = q2 then (1 : Int32) else (0 : Int32)) else (0 : Int32)))]))
        refine own_fin (b := T32_.setTop (mkF mM 166 #[.val (.long q1), .second, .val (.long q2), .second, .val (.long q3), .second, .val (.long q4), .second, .val (.int p5), .val (.ref b1_), .val (.int mv), .val (.long fa), .second, .val (.long fb), .second, .val (.ref b19_), .val (.int ex)] [(.ref b1_), (.ref b19_)])) (fun tT kK => ?_) ?_
        · show Steps pP.tables eE below (T32_.setTop (mkF mM 157 #[.val (.long q1), .second, .val (.long q2), .second, .val (.long q3), .second, .val (.long q4), .second, .val (.int p5), .val (.ref b1_), .val (.int mv), .val (.long fa), .second, .val (.long fb), .second, .val (.ref b19_), .val (.int ex)] [(.int (if fa = q1 then (if fb = q2 then (1 : Int32) else (0 : Int32)) else (0 : Int32)))])) tT
          refine XS.iload X32_.here hx rfl (Jvm.hb hby at_157) rfl ?_
          show Steps pP.tables eE below (T32_.setTop (mkF mM 159 #[.val (.long q1), .second, .val (.long q2), .second, .val (.long q3), .second, .val (.long q4), .second, .val (.int p5), .val (.ref b1_), .val (.int mv), .val (.long fa), .second, .val (.long fb), .second, .val (.ref b19_), .val (.int ex)] [(.int ex), (.int (if fa = q1 then (if fb = q2 then (1 : Int32) else (0 : Int32)) else (0 : Int32)))])) tT
          refine XS.icmpNo X32_.here hx rfl (Jvm.hb hby at_159) rfl (teq (hex.symm : (if fa = q1 then (if fb = q2 then (1 : Int32) else (0 : Int32)) else (0 : Int32)) = ex)).2 ?_
          show Steps pP.tables eE below (T32_.setTop (mkF mM 162 #[.val (.long q1), .second, .val (.long q2), .second, .val (.long q3), .second, .val (.long q4), .second, .val (.int p5), .val (.ref b1_), .val (.int mv), .val (.long fa), .second, .val (.long fb), .second, .val (.ref b19_), .val (.int ex)] [])) tT
          refine XS.aload X32_.here hx rfl (Jvm.hb hby at_162) rfl rfl ?_
          show Steps pP.tables eE below (T32_.setTop (mkF mM 164 #[.val (.long q1), .second, .val (.long q2), .second, .val (.long q3), .second, .val (.long q4), .second, .val (.int p5), .val (.ref b1_), .val (.int mv), .val (.long fa), .second, .val (.long fb), .second, .val (.ref b19_), .val (.int ex)] [(.ref b19_)])) tT
          refine XS.aload X32_.here hx rfl (Jvm.hb hby at_164) rfl rfl ?_
          show Steps pP.tables eE below (T32_.setTop (mkF mM 166 #[.val (.long q1), .second, .val (.long q2), .second, .val (.long q3), .second, .val (.long q4), .second, .val (.int p5), .val (.ref b1_), .val (.int mv), .val (.long fa), .second, .val (.long fb), .second, .val (.ref b19_), .val (.int ex)] [(.ref b1_), (.ref b19_)])) tT
          exact kK
        obtain ⟨cq33_, kq33_, q33_a, q33_b, q33_c⟩ := isOf hZ p32__0 p25__1
        obtain ⟨_, _, ⟨T33_, L33_, k33_, n33_⟩, -, X33_, ⟨Lc33_, hQ33_, l33_, y33_, z33_⟩, st33_⟩ := X32_.virtualBack hx (y := (⟨"com/example/epoch/epoch/Trimmed", "equals", "(Ljava/lang/Object;)Z"⟩ : MethodName)) (z := (⟨"com/example/epoch/epoch/Trimmed", "equals", "(Ljava/lang/Object;)Z"⟩ : MethodName)) hown (mvT hZ (hw _ (List.mem_of_getElem? (i := 13) rfl))) (mvT hZ (hw _ (List.mem_of_getElem? (i := 14) rfl))) (notFace_of_selects (args := #[]) (mvT hZ (hw _ (List.mem_of_getElem? (i := 16) rfl)))) (mvT hZ (hw _ (List.mem_of_getElem? (i := 16) rfl))) (mvT hZ (hw _ (List.mem_of_getElem? (i := 15) rfl))) (by decide) (backOf (W := 0) (rm_eq lL Z a0 hw [] b19_ b1_ fa fb q1 q2 T25_.heap n0 (Nat.le_trans Z0 K25_.1) fc27_ p25__2 p25__3 fc28_ fc29_) hZ (hw _ (List.mem_of_getElem? (i := 17) rfl)) (hw _ (List.mem_of_getElem? (i := 2) rfl)) (by decide) (by decide)) q33_a q33_c (g := (mkF mM 166 #[.val (.long q1), .second, .val (.long q2), .second, .val (.long q3), .second, .val (.long q4), .second, .val (.int p5), .val (.ref b1_), .val (.int mv), .val (.long fa), .second, .val (.long fb), .second, .val (.ref b19_), .val (.int ex)] [(.ref b1_), (.ref b19_)])) rfl (by rw [hml]; rfl) (Steps.refl _) (argsL := [(.ref b1_)]) (rest := []) (lenOf own_pd3 rfl) rfl (by show 2 * 0 + _ ≤ _; exact Nat.le_of_eq rfl) (Jvm.hb hby at_166) (fun _ _ => ⟨rfl, p32__0, (by decide : 2 + 0 ≤ _), (by decide : 4 + 0 ≤ _)⟩)
        dsimp only [Pt.U, Pt.locs, Pt.cells, Pt.slots] at X33_ l33_ y33_ z33_ st33_ hQ33_
        subst l33_ y33_ z33_
        obtain ⟨rfl, N33_q, p33__0⟩ := hQ33_
        have N33_ := Fr.app N32_ N33_q
        refine own_fin (fun tT kK => st33_.trans kK) ?_
        show own_Fin pP eE below _ (T33_.setTop (mkF mM 169 #[.val (.long q1), .second, .val (.long q2), .second, .val (.long q3), .second, .val (.long q4), .second, .val (.int p5), .val (.ref b1_), .val (.int mv), .val (.long fa), .second, .val (.long fb), .second, .val (.ref b19_), .val (.int ex)] [(.int (if q1 = fa then (if q2 = fb then (1 : Int32) else (0 : Int32)) else (0 : Int32)))]))
        refine own_fin (b := T33_.setTop (mkF mM 179 #[.val (.long q1), .second, .val (.long q2), .second, .val (.long q3), .second, .val (.long q4), .second, .val (.int p5), .val (.ref b1_), .val (.int mv), .val (.long fa), .second, .val (.long fb), .second, .val (.ref b19_), .val (.int ex)] [(.int (1 : Int32))])) (fun tT kK => ?_) ?_
        · show Steps pP.tables eE below (T33_.setTop (mkF mM 169 #[.val (.long q1), .second, .val (.long q2), .second, .val (.long q3), .second, .val (.long q4), .second, .val (.int p5), .val (.ref b1_), .val (.int mv), .val (.long fa), .second, .val (.long fb), .second, .val (.ref b19_), .val (.int ex)] [(.int (if q1 = fa then (if q2 = fb then (1 : Int32) else (0 : Int32)) else (0 : Int32)))])) tT
          refine XS.iload X33_.here hx rfl (Jvm.hb hby at_169) rfl ?_
          show Steps pP.tables eE below (T33_.setTop (mkF mM 171 #[.val (.long q1), .second, .val (.long q2), .second, .val (.long q3), .second, .val (.long q4), .second, .val (.int p5), .val (.ref b1_), .val (.int mv), .val (.long fa), .second, .val (.long fb), .second, .val (.ref b19_), .val (.int ex)] [(.int ex), (.int (if q1 = fa then (if q2 = fb then (1 : Int32) else (0 : Int32)) else (0 : Int32)))])) tT
          refine XS.icmpNo X33_.here hx rfl (Jvm.hb hby at_171) rfl (teq ((own_sym _ _ _ _).trans hex.symm : (if q1 = fa then (if q2 = fb then (1 : Int32) else (0 : Int32)) else (0 : Int32)) = ex)).2 ?_
          show Steps pP.tables eE below (T33_.setTop (mkF mM 174 #[.val (.long q1), .second, .val (.long q2), .second, .val (.long q3), .second, .val (.long q4), .second, .val (.int p5), .val (.ref b1_), .val (.int mv), .val (.long fa), .second, .val (.long fb), .second, .val (.ref b19_), .val (.int ex)] [])) tT
          refine XS.iconst X33_.here hx rfl (Jvm.hb hby at_174) ?_
          show Steps pP.tables eE below (T33_.setTop (mkF mM 175 #[.val (.long q1), .second, .val (.long q2), .second, .val (.long q3), .second, .val (.long q4), .second, .val (.int p5), .val (.ref b1_), .val (.int mv), .val (.long fa), .second, .val (.long fb), .second, .val (.ref b19_), .val (.int ex)] [(.int (1 : Int32))])) tT
          refine XS.goto X33_.here hx rfl (pc0 := 175) (pc' := 179) rfl (Jvm.hb hby at_175) (by decide) (by decide) ?_
          show Steps pP.tables eE below (T33_.setTop (mkF mM 179 #[.val (.long q1), .second, .val (.long q2), .second, .val (.long q3), .second, .val (.long q4), .second, .val (.int p5), .val (.ref b1_), .val (.int mv), .val (.long fa), .second, .val (.long fb), .second, .val (.ref b19_), .val (.int ex)] [(.int (1 : Int32))])) tT
          exact kK
        obtain ⟨fs, hr, hrun, hended, hW, hsame⟩ := X33_.leave (v := some (.int (1 : Int32))) (fun h => by rw [Bd.returns] at h; cases h)
        refine ⟨_, _, ?_, hrun, hended, _, _, rfl, ?_, ⟨_, rfl⟩, hW, hsame.mono (by decide) (by decide)⟩
        · show Steps pP.tables eE below (T33_.setTop (mkF mM 179 #[.val (.long q1), .second, .val (.long q2), .second, .val (.long q3), .second, .val (.long q4), .second, .val (.int p5), .val (.ref b1_), .val (.int mv), .val (.long fa), .second, .val (.long fb), .second, .val (.ref b19_), .val (.int ex)] [(.int (1 : Int32))])) _
          exact retN X33_ hx (t := .boolean) Bd.returns (by simp) (Jvm.hb hby at_179) hr
        · show Q_rm0 Z q1 q2 q3 q4 p5 ca cc h0 n0 _ T33_.heap _
          rw [p33__0]
          exact ⟨rfl, N33_⟩
set_option maxRecDepth 65536 in
set_option maxHeartbeats 40000000 in
theorem comes_1 {Post : Tables → Env → Array Value → State → Outcome → State → Prop} (hpost : ∀ tb e args s v u, (limb_1_1.after args s (.returned v) u = true ∧ limb_1_2.after args s (.returned v) u = true ∧ True) → FrameEnd s (.returned v) u (Jvm.fieldLocs frame_1_writes args s ++ Jvm.arrayLocs frame_1_arrays args s ++ Jvm.staticLocs frame_1_statics s) 16 128 → Post tb e args s (.returned v) u) :
    ArmFor flags0 classFile x code maxLocals ret World_1 tables_1 room_1 Calls_1 rest_1 Pre_1 Post := by
  intro l hfl _ _ p e ha hc hk s m args below hf hA hF happ hP
  obtain ⟨hcalls, hrest, hpre⟩ := hP
  obtain ⟨-, -, -, hnamed, -, -, -, hat⟩ := (Spec.applies_iff hf).mp happ
  obtain ⟨hg, hn⟩ := and_e (Cond.before_iff.mp (show (Jvm.Cond.and given_1 narrow_1).before args s = true from hpre))
  obtain ⟨gg1, gg2⟩ := and_e hg
  obtain ⟨gg3, gg4⟩ := and_e gg2
  obtain ⟨gg5, gg6⟩ := and_e gg4
  obtain ⟨gg7, gg8⟩ := and_e gg6
  obtain ⟨gg9, gg10⟩ := and_e gg8
  obtain ⟨w0, w1, w2, w3, w4, rfl⟩ : ∃ w0 w1 w2 w3 w4 : Value, args = #[w0, w1, w2, w3, w4] := by
    have hs : args.size = 5 := by simpa [Cond.value, given_1] using gg1
    obtain ⟨L⟩ := args
    match L, hs with
    | [w0, w1, w2, w3, w4], _ => exact ⟨w0, w1, w2, w3, w4, rfl⟩
  have hw := fun d (hd : d ∈ tables_1) => atoms_spec (ws := Jvm.Cond.code x code maxLocals ret :: tables_1) hat d (List.mem_cons_of_mem _ hd)
  have hfit : Fit s := fun {y c} hc i hi => by
    obtain ⟨ha, rfl⟩ := Array.getElem?_eq_some_iff.mp hc
    have q := List.all_eq_true.mp ((Array.all_eq_true_iff_forall_mem.mp hF) _ (Array.getElem_mem ha)) i (List.mem_range.mpr hi)
    simpa [Array.getElem?_eq_getElem hi] using q
  obtain ⟨hsets, hown0⟩ := atoms_of _ (rest_1_c_eq ▸ (show rest_1_c.before _ s = true from hrest))
  have hr0 := Cond.before_iff.mp hown0
  obtain ⟨i0, ei0⟩ := isL_v gg3
  obtain rfl : w0 = (.long i0) := Option.some.inj ei0
  obtain ⟨i1, ei1⟩ := isL_v gg5
  obtain rfl : w1 = (.long i1) := Option.some.inj ei1
  obtain ⟨i2, ei2⟩ := isL_v gg7
  obtain rfl : w2 = (.long i2) := Option.some.inj ei2
  obtain ⟨i3, ei3⟩ := isL_v gg9
  obtain rfl : w3 = (.long i3) := Option.some.inj ei3
  obtain ⟨i4, ei4⟩ := is_v gg10
  obtain rfl : w4 = (.int i4) := Option.some.inj ei4
  obtain ⟨ca, cc, evc, hca⟩ := own_cache (hsets _ (List.mem_of_getElem? (i := 2) rfl)) (hsets _ (List.mem_of_getElem? (i := 4) rfl)) (hsets _ (List.mem_of_getElem? (i := 5) rfl))
  have hcs := Sta.start evc (Or.inl (hsets _ (List.mem_of_getElem? (i := 1) rfl)))
  obtain ⟨n, o, h1, h2, h3, _, L, rfl, ⟨rfl, N⟩, hq⟩ := rm0 l s _ hw tables_1 i0 i1 i2 i3 i4 ca cc s.heap s.heap.size (Nat.le_refl _) (Old.start s) hca hcs p e ha hc hk s m _ below hf ((Spec.applies_iff_loose hf).mp happ).1 ⟨rfl, State.Warmed39.refl s, rfl⟩ trivial
  refine ⟨n, _, h1, h2, h3, hpost _ _ _ _ _ _ ⟨Cond.after_iff.mpr rfl, Cond.after_iff.mpr (eq_i res_at (Term.int_eval (1)) rfl), trivial⟩ ⟨hq.1, hq.2.1, (hq.2.2.sift fun y hy => Or.inr (N y hy)).mono (by decide) (by decide)⟩⟩
theorem main_1_1 : Claimed_1_1 := comes_1 fun _ _ _ _ _ _ h hF => ⟨h.1, hF⟩
theorem main_1_2 : Claimed_1_2 := comes_1 fun _ _ _ _ _ _ h hF => ⟨h.2.1, hF⟩
end Jvm.Pilot.@@N@@
namespace Jvm.Pilot.@@N@@
open Jvm Jvm.ClassFile Sem Op Lib Jvm.Free Jvm.Stand Jvm.Pilot.@@N@@.Jvm.D
/-! MADE BY PROGRAM (witnessworld.py) out of the Statement's table words and the real class files: 16 classes; the members and pool entries that the words name. The judged class is class 1, her method 1. -/
namespace start1
open Jvm.ClassFile
def u (s : String) : CpInfo := .utf8 (stringToUtf16 s)
/-- a pool by its gaps: so many unusable entries, then the entry; so many at the end -/
def gap : Nat → List CpInfo → List CpInfo
  | 0, r => r
  | n + 1, r => .unusable :: gap n r
def poolList (es : List (Nat × CpInfo)) (last : Nat) : List CpInfo := es.foldr (fun e r => gap e.1 (e.2 :: r)) (gap last [])
def pool (es : List (Nat × CpInfo)) (last : Nat) : Array CpInfo := ⟨poolList es last⟩
def fileOf (pool : Array CpInfo) (this : Nat) (attrs : Array Attribute := #[]) (ms : Array MethodInfo := #[]) (fl : Nat := 33) (sup : Nat := 0) (ifs : Array Nat := #[]) (fds : Array FieldInfo := #[]) : ClassFile where
  minorVersion := 0
  majorVersion := 65
  constantPool := pool
  accessFlags := fl
  thisClass := this
  superClass := sup
  interfaces := ifs
  fields := fds
  methods := ms
  attributes := attrs
def plain (name : String) (sup : Option ClassId) : Class where
  name := name
  kind := .ordinary
  loader := none
  accessFlags := 33
  super := sup
  interfaces := #[]
  cf := none
  fields := #[]
  methods := #[]
  instanceTypes := #[]
  staticTypes := #[]
  resolved := #[]
  callSites := []
  init := .initialized
  statics := none
  mirror := none

def pool0 : Array CpInfo := pool [(5, u "<init>"), (0, u "()V"), (1, .class_ 10), (1, u "java/lang/Object")] 113

def k0c0 : Code := { maxStack := 0, maxLocals := 1, code := object_method_1_code, exceptionTable := #[], attributes := #[] }
def k0m0 : Method := { name := "<init>", desc := "()V", sig := { parameters := [], returnType := none }, accessFlags := 1, code := some k0c0 }
/-- java/lang/Object -/
def k0 : Class := { plain "java/lang/Object" none with
  accessFlags := 33
  interfaces := #[]
  cf := some (fileOf pool0 8 #[] #[{ accessFlags := 1, nameIndex := 5, descriptorIndex := 6, attributes := #[] }] 33 0 #[] #[])
  fields := #[]
  methods := #[k0m0]
  instanceTypes := #[]
  staticTypes := #[]
  resolved := Array.replicate 124 none
  statics := none }

def pool1 : Array CpInfo := pool [(2, .class_ 4), (1, u "java/lang/Object"), (0, u "<init>"), (0, u "()V"), (0, .class_ 8), (0, u "com/example/epoch/epoch/Trimmed"), (0, .methodref 7 10), (0, .nameAndType 5 11), (0, u "(JJ)V"), (0, .methodref 7 13), (0, .nameAndType 14 15), (0, u "equals"), (0, u "(Ljava/lang/Object;)Z"), (0, .methodref 17 18), (0, .class_ 19), (0, .nameAndType 20 21), (0, u "java/lang/Long"), (0, u "valueOf"), (0, u "(J)Ljava/lang/Long;"), (0, .class_ 23), (0, u "com/example/epoch/epoch/TrimmedEqualsPinLaw"), (2, u "law"), (0, u "(JJJJI)Z")] 3

def k1m0 : Method := { name := "<init>", desc := "()V", sig := { parameters := [], returnType := none }, accessFlags := 1, code := none }
def k1c1 : Code := { maxStack := 6, maxLocals := 17, code := code, exceptionTable := #[], attributes := #[] }
def k1m1 : Method := { name := "law", desc := "(JJJJI)Z", sig := { parameters := [.long, .long, .long, .long, .int], returnType := some .boolean }, accessFlags := 9, code := some k1c1 }
/-- com/example/epoch/epoch/TrimmedEqualsPinLaw -/
def k1 : Class := { plain "com/example/epoch/epoch/TrimmedEqualsPinLaw" (some 0) with
  accessFlags := 49
  interfaces := #[]
  cf := some (fileOf pool1 22 #[] #[{ accessFlags := 1, nameIndex := 5, descriptorIndex := 6, attributes := #[] }, { accessFlags := 9, nameIndex := 26, descriptorIndex := 27, attributes := #[] }] 49 2 #[] #[])
  fields := #[]
  methods := #[k1m0, k1m1]
  instanceTypes := #[]
  staticTypes := #[]
  resolved := Array.replicate 31 none
  statics := none }

def pool2 : Array CpInfo := pool [(1, .methodref 2 3), (0, .class_ 4), (0, .nameAndType 5 6), (0, u "java/lang/Object"), (0, u "<init>"), (0, u "()V"), (0, .fieldref 8 9), (0, .class_ 10), (0, .nameAndType 11 12), (0, u "com/example/epoch/epoch/Trimmed"), (0, u "floor"), (0, u "J"), (0, .fieldref 8 14), (0, .nameAndType 15 12), (0, u "removed"), (16, u "(JJ)V"), (3, u "equals"), (0, u "(Ljava/lang/Object;)Z")] 22

def k2c0 : Code := { maxStack := 3, maxLocals := 5, code := prog_32_method_1_code, exceptionTable := #[], attributes := #[] }
def k2m0 : Method := { name := "<init>", desc := "(JJ)V", sig := { parameters := [.long, .long], returnType := none }, accessFlags := 0, code := some k2c0 }
def k2c1 : Code := { maxStack := 4, maxLocals := 3, code := prog_32_method_4_code, exceptionTable := #[], attributes := #[] }
def k2m1 : Method := { name := "equals", desc := "(Ljava/lang/Object;)Z", sig := { parameters := [(.object "java/lang/Object")], returnType := some .boolean }, accessFlags := 1, code := some k2c1 }
/-- com/example/epoch/epoch/Trimmed -/
def k2 : Class := { plain "com/example/epoch/epoch/Trimmed" (some 0) with
  accessFlags := 33
  interfaces := #[]
  cf := some (fileOf pool2 8 #[] #[{ accessFlags := 0, nameIndex := 5, descriptorIndex := 32, attributes := #[] }, { accessFlags := 1, nameIndex := 36, descriptorIndex := 37, attributes := #[] }] 33 2 #[] #[{ accessFlags := 18, nameIndex := 11, descriptorIndex := 12, attributes := #[] }, { accessFlags := 18, nameIndex := 15, descriptorIndex := 12, attributes := #[] }])
  fields := #[{ name := "floor", type := .long, accessFlags := 18, slot := 0, constantValue := 0 }, { name := "removed", type := .long, accessFlags := 18, slot := 1, constantValue := 0 }]
  methods := #[k2m0, k2m1]
  instanceTypes := #[.long, .long]
  staticTypes := #[]
  resolved := Array.replicate 60 none
  statics := none }

def pool3 : Array CpInfo := pool [(1, .class_ 2), (0, u "java/io/Serializable"), (0, .class_ 4), (0, u "java/lang/Object")] 2

/-- java/io/Serializable -/
def k3 : Class := { plain "java/io/Serializable" (some 0) with
  accessFlags := 1537
  interfaces := #[]
  cf := some (fileOf pool3 1 #[] #[] 1537 3 #[] #[])
  fields := #[]
  methods := #[]
  instanceTypes := #[]
  staticTypes := #[]
  resolved := Array.replicate 7 none
  statics := none }

def pool4 : Array CpInfo := pool [(1, .methodref 2 3), (0, .class_ 4), (0, .nameAndType 5 6), (0, u "java/lang/Object"), (0, u "<init>"), (0, u "()V"), (1, .class_ 10), (1, u "java/lang/Number"), (2, .class_ 14), (0, u "java/io/Serializable"), (0, u "serialVersionUID"), (0, u "J")] 20

def k4c0 : Code := { maxStack := 1, maxLocals := 1, code := jdk_18_method_1_code, exceptionTable := #[], attributes := #[] }
def k4m0 : Method := { name := "<init>", desc := "()V", sig := { parameters := [], returnType := none }, accessFlags := 1, code := some k4c0 }
/-- java/lang/Number -/
def k4 : Class := { plain "java/lang/Number" (some 0) with
  accessFlags := 1057
  interfaces := #[3]
  cf := some (fileOf pool4 8 #[] #[{ accessFlags := 1, nameIndex := 5, descriptorIndex := 6, attributes := #[] }] 1057 2 #[13] #[{ accessFlags := 26, nameIndex := 15, descriptorIndex := 16, attributes := #[] }])
  fields := #[{ name := "serialVersionUID", type := .long, accessFlags := 26, slot := 0, constantValue := 0 }]
  methods := #[k4m0]
  instanceTypes := #[]
  staticTypes := #[.long]
  resolved := Array.replicate 37 none
  statics := none }

def pool5 : Array CpInfo := pool [(1, .class_ 2), (0, u "java/lang/Comparable"), (0, .class_ 4), (0, u "java/lang/Object")] 7

/-- java/lang/Comparable -/
def k5 : Class := { plain "java/lang/Comparable" (some 0) with
  accessFlags := 1537
  interfaces := #[]
  cf := some (fileOf pool5 1 #[] #[] 1537 3 #[] #[])
  fields := #[]
  methods := #[]
  instanceTypes := #[]
  staticTypes := #[]
  resolved := Array.replicate 12 none
  statics := none }

def pool6 : Array CpInfo := pool [(1, .class_ 2), (0, u "java/lang/constant/Constable"), (0, .class_ 4), (0, u "java/lang/Object")] 6

/-- java/lang/constant/Constable -/
def k6 : Class := { plain "java/lang/constant/Constable" (some 0) with
  accessFlags := 1537
  interfaces := #[]
  cf := some (fileOf pool6 1 #[] #[] 1537 3 #[] #[])
  fields := #[]
  methods := #[]
  instanceTypes := #[]
  staticTypes := #[]
  resolved := Array.replicate 11 none
  statics := none }

def pool7 : Array CpInfo := pool [(1, .class_ 2), (0, u "java/lang/constant/ConstantDesc"), (0, .class_ 4), (0, u "java/lang/Object")] 32

/-- java/lang/constant/ConstantDesc -/
def k7 : Class := { plain "java/lang/constant/ConstantDesc" (some 0) with
  accessFlags := 1537
  interfaces := #[]
  cf := some (fileOf pool7 1 #[] #[] 1537 3 #[] #[])
  fields := #[]
  methods := #[]
  instanceTypes := #[]
  staticTypes := #[]
  resolved := Array.replicate 37 none
  statics := none }

def pool8 : Array CpInfo := pool [(1, .class_ 2), (0, u "java/lang/Long"), (55, .nameAndType 59 60), (0, u "<init>"), (0, u "()V"), (24, u "valueOf"), (143, u "(J)Ljava/lang/Long;"), (0, .long 18446744073709551488), (1, .long 127), (1, .fieldref 235 236), (0, .class_ 237), (0, .nameAndType 238 239), (0, u "java/lang/Long$LongCache"), (0, u "cache"), (0, u "[Ljava/lang/Long;"), (0, .methodref 1 241), (0, .nameAndType 59 242), (0, u "(J)V"), (27, .methodref 271 58), (0, .class_ 272), (0, u "java/lang/Number"), (0, .fieldref 1 274), (0, .nameAndType 275 276), (0, u "value"), (0, u "J"), (84, u "TYPE"), (0, u "Ljava/lang/Class;"), (0, .class_ 364), (0, u "java/lang/Comparable"), (0, .class_ 366), (0, u "java/lang/constant/Constable"), (0, .class_ 368), (0, u "java/lang/constant/ConstantDesc"), (0, u "MIN_VALUE"), (1, u "MAX_VALUE"), (4, u "SIZE"), (0, u "I"), (1, u "BYTES"), (1, u "serialVersionUID")] 142

def k8c0 : Code := { maxStack := 4, maxLocals := 3, code := jdk_35_method_24_code, exceptionTable := #[], attributes := #[] }
def k8m0 : Method := { name := "valueOf", desc := "(J)Ljava/lang/Long;", sig := { parameters := [.long], returnType := some (.object "java/lang/Long") }, accessFlags := 9, code := some k8c0 }
def k8c1 : Code := { maxStack := 3, maxLocals := 3, code := jdk_35_method_26_code, exceptionTable := #[], attributes := #[] }
def k8m1 : Method := { name := "<init>", desc := "(J)V", sig := { parameters := [.long], returnType := none }, accessFlags := 1, code := some k8c1 }
/-- java/lang/Long -/
def k8 : Class := { plain "java/lang/Long" (some 4) with
  accessFlags := 49
  interfaces := #[5, 6, 7]
  cf := some (fileOf pool8 1 #[.nestMembers #[235]] #[{ accessFlags := 9, nameIndex := 85, descriptorIndex := 229, attributes := #[] }, { accessFlags := 1, nameIndex := 59, descriptorIndex := 242, attributes := #[] }] 49 271 #[363, 365, 367] #[{ accessFlags := 25, nameIndex := 369, descriptorIndex := 276, attributes := #[] }, { accessFlags := 25, nameIndex := 371, descriptorIndex := 276, attributes := #[] }, { accessFlags := 25, nameIndex := 361, descriptorIndex := 362, attributes := #[] }, { accessFlags := 18, nameIndex := 275, descriptorIndex := 276, attributes := #[] }, { accessFlags := 25, nameIndex := 376, descriptorIndex := 377, attributes := #[] }, { accessFlags := 25, nameIndex := 379, descriptorIndex := 377, attributes := #[] }, { accessFlags := 26, nameIndex := 381, descriptorIndex := 276, attributes := #[] }])
  fields := #[{ name := "MIN_VALUE", type := .long, accessFlags := 25, slot := 0, constantValue := 0 }, { name := "MAX_VALUE", type := .long, accessFlags := 25, slot := 1, constantValue := 0 }, { name := "TYPE", type := (.object "java/lang/Class"), accessFlags := 25, slot := 2, constantValue := 0 }, { name := "value", type := .long, accessFlags := 18, slot := 0, constantValue := 0 }, { name := "SIZE", type := .int, accessFlags := 25, slot := 3, constantValue := 0 }, { name := "BYTES", type := .int, accessFlags := 25, slot := 4, constantValue := 0 }, { name := "serialVersionUID", type := .long, accessFlags := 26, slot := 5, constantValue := 0 }]
  methods := #[k8m0, k8m1]
  instanceTypes := #[.long]
  staticTypes := #[.long, .long, (.object "java/lang/Class"), .int, .int, .long]
  resolved := Array.replicate 524 none
  statics := none }

def pool9 : Array CpInfo := pool [(2, .class_ 4), (1, u "java/lang/Object"), (0, u "<init>"), (0, u "()V"), (0, .class_ 8), (0, u "java/lang/Long"), (7, .class_ 18), (1, u "java/lang/Long$LongCache"), (0, u "$assertionsDisabled"), (0, u "Z"), (8, u "archivedCache"), (0, u "[Ljava/lang/Long;"), (7, u "cache")] 24

def k9m0 : Method := { name := "<init>", desc := "()V", sig := { parameters := [], returnType := none }, accessFlags := 2, code := none }
/-- java/lang/Long$LongCache -/
def k9 : Class := { plain "java/lang/Long$LongCache" (some 0) with
  accessFlags := 48
  interfaces := #[]
  cf := some (fileOf pool9 16 #[.nestHost 7] #[{ accessFlags := 2, nameIndex := 5, descriptorIndex := 6, attributes := #[] }] 48 2 #[] #[{ accessFlags := 24, nameIndex := 38, descriptorIndex := 30, attributes := #[] }, { accessFlags := 8, nameIndex := 29, descriptorIndex := 30, attributes := #[] }, { accessFlags := 4120, nameIndex := 19, descriptorIndex := 20, attributes := #[] }])
  fields := #[{ name := "cache", type := (.array (.object "java/lang/Long")), accessFlags := 24, slot := 0, constantValue := 0 }, { name := "archivedCache", type := (.array (.object "java/lang/Long")), accessFlags := 8, slot := 1, constantValue := 0 }, { name := "$assertionsDisabled", type := .boolean, accessFlags := 4120, slot := 2, constantValue := 0 }]
  methods := #[k9m0]
  instanceTypes := #[]
  staticTypes := #[(.array (.object "java/lang/Long")), (.array (.object "java/lang/Long")), .boolean]
  resolved := Array.replicate 63 none
  statics := some 0 }

def pool10 : Array CpInfo := pool [(1, u "java/lang/Cloneable"), (0, .class_ 1), (0, u "java/lang/Object"), (0, .class_ 3)] 3

/-- java/lang/Cloneable -/
def k10 : Class := { plain "java/lang/Cloneable" (some 0) with
  accessFlags := 1537
  interfaces := #[]
  cf := some (fileOf pool10 2 #[] #[] 1537 4 #[] #[])
  fields := #[]
  methods := #[]
  instanceTypes := #[]
  staticTypes := #[]
  resolved := Array.replicate 8 none
  statics := none }

/-- the primitive byte -/
def k11 : Class := { plain "byte" none with kind := .primitive 'B', accessFlags := 0x411 }
/-- [B -/
def k12 : Class := { plain "[B" (some 0) with kind := .array 11 .byte, interfaces := #[10, 3], accessFlags := 1041 }

/-- the primitive int -/
def k13 : Class := { plain "int" none with kind := .primitive 'I', accessFlags := 0x411 }
/-- [I -/
def k14 : Class := { plain "[I" (some 0) with kind := .array 13 .int, interfaces := #[10, 3], accessFlags := 1041 }

/-- [Ljava/lang/Long; -/
def k15 : Class := { plain "[Ljava/lang/Long;" (some 0) with kind := .array 8 (.object "java/lang/Long"), interfaces := #[10, 3], accessFlags := 1041 }

def heap : Heap := #[{ cls := 9, slots := #[.ref 1, .null, .int 0], vm := .statics 9 },
  { cls := 15, slots := #[.ref 2, .ref 3, .ref 4, .ref 5, .ref 6, .ref 7, .ref 8, .ref 9, .ref 10, .ref 11, .ref 12, .ref 13, .ref 14, .ref 15, .ref 16, .ref 17, .ref 18, .ref 19, .ref 20, .ref 21, .ref 22, .ref 23, .ref 24, .ref 25, .ref 26, .ref 27, .ref 28, .ref 29, .ref 30, .ref 31, .ref 32, .ref 33, .ref 34, .ref 35, .ref 36, .ref 37, .ref 38, .ref 39, .ref 40, .ref 41, .ref 42, .ref 43, .ref 44, .ref 45, .ref 46, .ref 47, .ref 48, .ref 49, .ref 50, .ref 51, .ref 52, .ref 53, .ref 54, .ref 55, .ref 56, .ref 57, .ref 58, .ref 59, .ref 60, .ref 61, .ref 62, .ref 63, .ref 64, .ref 65, .ref 66, .ref 67, .ref 68, .ref 69, .ref 70, .ref 71, .ref 72, .ref 73, .ref 74, .ref 75, .ref 76, .ref 77, .ref 78, .ref 79, .ref 80, .ref 81, .ref 82, .ref 83, .ref 84, .ref 85, .ref 86, .ref 87, .ref 88, .ref 89, .ref 90, .ref 91, .ref 92, .ref 93, .ref 94, .ref 95, .ref 96, .ref 97, .ref 98, .ref 99, .ref 100, .ref 101, .ref 102, .ref 103, .ref 104, .ref 105, .ref 106, .ref 107, .ref 108, .ref 109, .ref 110, .ref 111, .ref 112, .ref 113, .ref 114, .ref 115, .ref 116, .ref 117, .ref 118, .ref 119, .ref 120, .ref 121, .ref 122, .ref 123, .ref 124, .ref 125, .ref 126, .ref 127, .ref 128, .ref 129, .ref 130, .ref 131, .ref 132, .ref 133, .ref 134, .ref 135, .ref 136, .ref 137, .ref 138, .ref 139, .ref 140, .ref 141, .ref 142, .ref 143, .ref 144, .ref 145, .ref 146, .ref 147, .ref 148, .ref 149, .ref 150, .ref 151, .ref 152, .ref 153, .ref 154, .ref 155, .ref 156, .ref 157, .ref 158, .ref 159, .ref 160, .ref 161, .ref 162, .ref 163, .ref 164, .ref 165, .ref 166, .ref 167, .ref 168, .ref 169, .ref 170, .ref 171, .ref 172, .ref 173, .ref 174, .ref 175, .ref 176, .ref 177, .ref 178, .ref 179, .ref 180, .ref 181, .ref 182, .ref 183, .ref 184, .ref 185, .ref 186, .ref 187, .ref 188, .ref 189, .ref 190, .ref 191, .ref 192, .ref 193, .ref 194, .ref 195, .ref 196, .ref 197, .ref 198, .ref 199, .ref 200, .ref 201, .ref 202, .ref 203, .ref 204, .ref 205, .ref 206, .ref 207, .ref 208, .ref 209, .ref 210, .ref 211, .ref 212, .ref 213, .ref 214, .ref 215, .ref 216, .ref 217, .ref 218, .ref 219, .ref 220, .ref 221, .ref 222, .ref 223, .ref 224, .ref 225, .ref 226, .ref 227, .ref 228, .ref 229, .ref 230, .ref 231, .ref 232, .ref 233, .ref 234, .ref 235, .ref 236, .ref 237, .ref 238, .ref 239, .ref 240, .ref 241, .ref 242, .ref 243, .ref 244, .ref 245, .ref 246, .ref 247, .ref 248, .ref 249, .ref 250, .ref 251, .ref 252, .ref 253, .ref 254, .ref 255, .ref 256, .ref 257], vm := .none },
  { cls := 8, slots := #[.long (-128)], vm := .none },
  { cls := 8, slots := #[.long (-127)], vm := .none },
  { cls := 8, slots := #[.long (-126)], vm := .none },
  { cls := 8, slots := #[.long (-125)], vm := .none },
  { cls := 8, slots := #[.long (-124)], vm := .none },
  { cls := 8, slots := #[.long (-123)], vm := .none },
  { cls := 8, slots := #[.long (-122)], vm := .none },
  { cls := 8, slots := #[.long (-121)], vm := .none },
  { cls := 8, slots := #[.long (-120)], vm := .none },
  { cls := 8, slots := #[.long (-119)], vm := .none },
  { cls := 8, slots := #[.long (-118)], vm := .none },
  { cls := 8, slots := #[.long (-117)], vm := .none },
  { cls := 8, slots := #[.long (-116)], vm := .none },
  { cls := 8, slots := #[.long (-115)], vm := .none },
  { cls := 8, slots := #[.long (-114)], vm := .none },
  { cls := 8, slots := #[.long (-113)], vm := .none },
  { cls := 8, slots := #[.long (-112)], vm := .none },
  { cls := 8, slots := #[.long (-111)], vm := .none },
  { cls := 8, slots := #[.long (-110)], vm := .none },
  { cls := 8, slots := #[.long (-109)], vm := .none },
  { cls := 8, slots := #[.long (-108)], vm := .none },
  { cls := 8, slots := #[.long (-107)], vm := .none },
  { cls := 8, slots := #[.long (-106)], vm := .none },
  { cls := 8, slots := #[.long (-105)], vm := .none },
  { cls := 8, slots := #[.long (-104)], vm := .none },
  { cls := 8, slots := #[.long (-103)], vm := .none },
  { cls := 8, slots := #[.long (-102)], vm := .none },
  { cls := 8, slots := #[.long (-101)], vm := .none },
  { cls := 8, slots := #[.long (-100)], vm := .none },
  { cls := 8, slots := #[.long (-99)], vm := .none },
  { cls := 8, slots := #[.long (-98)], vm := .none },
  { cls := 8, slots := #[.long (-97)], vm := .none },
  { cls := 8, slots := #[.long (-96)], vm := .none },
  { cls := 8, slots := #[.long (-95)], vm := .none },
  { cls := 8, slots := #[.long (-94)], vm := .none },
  { cls := 8, slots := #[.long (-93)], vm := .none },
  { cls := 8, slots := #[.long (-92)], vm := .none },
  { cls := 8, slots := #[.long (-91)], vm := .none },
  { cls := 8, slots := #[.long (-90)], vm := .none },
  { cls := 8, slots := #[.long (-89)], vm := .none },
  { cls := 8, slots := #[.long (-88)], vm := .none },
  { cls := 8, slots := #[.long (-87)], vm := .none },
  { cls := 8, slots := #[.long (-86)], vm := .none },
  { cls := 8, slots := #[.long (-85)], vm := .none },
  { cls := 8, slots := #[.long (-84)], vm := .none },
  { cls := 8, slots := #[.long (-83)], vm := .none },
  { cls := 8, slots := #[.long (-82)], vm := .none },
  { cls := 8, slots := #[.long (-81)], vm := .none },
  { cls := 8, slots := #[.long (-80)], vm := .none },
  { cls := 8, slots := #[.long (-79)], vm := .none },
  { cls := 8, slots := #[.long (-78)], vm := .none },
  { cls := 8, slots := #[.long (-77)], vm := .none },
  { cls := 8, slots := #[.long (-76)], vm := .none },
  { cls := 8, slots := #[.long (-75)], vm := .none },
  { cls := 8, slots := #[.long (-74)], vm := .none },
  { cls := 8, slots := #[.long (-73)], vm := .none },
  { cls := 8, slots := #[.long (-72)], vm := .none },
  { cls := 8, slots := #[.long (-71)], vm := .none },
  { cls := 8, slots := #[.long (-70)], vm := .none },
  { cls := 8, slots := #[.long (-69)], vm := .none },
  { cls := 8, slots := #[.long (-68)], vm := .none },
  { cls := 8, slots := #[.long (-67)], vm := .none },
  { cls := 8, slots := #[.long (-66)], vm := .none },
  { cls := 8, slots := #[.long (-65)], vm := .none },
  { cls := 8, slots := #[.long (-64)], vm := .none },
  { cls := 8, slots := #[.long (-63)], vm := .none },
  { cls := 8, slots := #[.long (-62)], vm := .none },
  { cls := 8, slots := #[.long (-61)], vm := .none },
  { cls := 8, slots := #[.long (-60)], vm := .none },
  { cls := 8, slots := #[.long (-59)], vm := .none },
  { cls := 8, slots := #[.long (-58)], vm := .none },
  { cls := 8, slots := #[.long (-57)], vm := .none },
  { cls := 8, slots := #[.long (-56)], vm := .none },
  { cls := 8, slots := #[.long (-55)], vm := .none },
  { cls := 8, slots := #[.long (-54)], vm := .none },
  { cls := 8, slots := #[.long (-53)], vm := .none },
  { cls := 8, slots := #[.long (-52)], vm := .none },
  { cls := 8, slots := #[.long (-51)], vm := .none },
  { cls := 8, slots := #[.long (-50)], vm := .none },
  { cls := 8, slots := #[.long (-49)], vm := .none },
  { cls := 8, slots := #[.long (-48)], vm := .none },
  { cls := 8, slots := #[.long (-47)], vm := .none },
  { cls := 8, slots := #[.long (-46)], vm := .none },
  { cls := 8, slots := #[.long (-45)], vm := .none },
  { cls := 8, slots := #[.long (-44)], vm := .none },
  { cls := 8, slots := #[.long (-43)], vm := .none },
  { cls := 8, slots := #[.long (-42)], vm := .none },
  { cls := 8, slots := #[.long (-41)], vm := .none },
  { cls := 8, slots := #[.long (-40)], vm := .none },
  { cls := 8, slots := #[.long (-39)], vm := .none },
  { cls := 8, slots := #[.long (-38)], vm := .none },
  { cls := 8, slots := #[.long (-37)], vm := .none },
  { cls := 8, slots := #[.long (-36)], vm := .none },
  { cls := 8, slots := #[.long (-35)], vm := .none },
  { cls := 8, slots := #[.long (-34)], vm := .none },
  { cls := 8, slots := #[.long (-33)], vm := .none },
  { cls := 8, slots := #[.long (-32)], vm := .none },
  { cls := 8, slots := #[.long (-31)], vm := .none },
  { cls := 8, slots := #[.long (-30)], vm := .none },
  { cls := 8, slots := #[.long (-29)], vm := .none },
  { cls := 8, slots := #[.long (-28)], vm := .none },
  { cls := 8, slots := #[.long (-27)], vm := .none },
  { cls := 8, slots := #[.long (-26)], vm := .none },
  { cls := 8, slots := #[.long (-25)], vm := .none },
  { cls := 8, slots := #[.long (-24)], vm := .none },
  { cls := 8, slots := #[.long (-23)], vm := .none },
  { cls := 8, slots := #[.long (-22)], vm := .none },
  { cls := 8, slots := #[.long (-21)], vm := .none },
  { cls := 8, slots := #[.long (-20)], vm := .none },
  { cls := 8, slots := #[.long (-19)], vm := .none },
  { cls := 8, slots := #[.long (-18)], vm := .none },
  { cls := 8, slots := #[.long (-17)], vm := .none },
  { cls := 8, slots := #[.long (-16)], vm := .none },
  { cls := 8, slots := #[.long (-15)], vm := .none },
  { cls := 8, slots := #[.long (-14)], vm := .none },
  { cls := 8, slots := #[.long (-13)], vm := .none },
  { cls := 8, slots := #[.long (-12)], vm := .none },
  { cls := 8, slots := #[.long (-11)], vm := .none },
  { cls := 8, slots := #[.long (-10)], vm := .none },
  { cls := 8, slots := #[.long (-9)], vm := .none },
  { cls := 8, slots := #[.long (-8)], vm := .none },
  { cls := 8, slots := #[.long (-7)], vm := .none },
  { cls := 8, slots := #[.long (-6)], vm := .none },
  { cls := 8, slots := #[.long (-5)], vm := .none },
  { cls := 8, slots := #[.long (-4)], vm := .none },
  { cls := 8, slots := #[.long (-3)], vm := .none },
  { cls := 8, slots := #[.long (-2)], vm := .none },
  { cls := 8, slots := #[.long (-1)], vm := .none },
  { cls := 8, slots := #[.long 0], vm := .none },
  { cls := 8, slots := #[.long 1], vm := .none },
  { cls := 8, slots := #[.long 2], vm := .none },
  { cls := 8, slots := #[.long 3], vm := .none },
  { cls := 8, slots := #[.long 4], vm := .none },
  { cls := 8, slots := #[.long 5], vm := .none },
  { cls := 8, slots := #[.long 6], vm := .none },
  { cls := 8, slots := #[.long 7], vm := .none },
  { cls := 8, slots := #[.long 8], vm := .none },
  { cls := 8, slots := #[.long 9], vm := .none },
  { cls := 8, slots := #[.long 10], vm := .none },
  { cls := 8, slots := #[.long 11], vm := .none },
  { cls := 8, slots := #[.long 12], vm := .none },
  { cls := 8, slots := #[.long 13], vm := .none },
  { cls := 8, slots := #[.long 14], vm := .none },
  { cls := 8, slots := #[.long 15], vm := .none },
  { cls := 8, slots := #[.long 16], vm := .none },
  { cls := 8, slots := #[.long 17], vm := .none },
  { cls := 8, slots := #[.long 18], vm := .none },
  { cls := 8, slots := #[.long 19], vm := .none },
  { cls := 8, slots := #[.long 20], vm := .none },
  { cls := 8, slots := #[.long 21], vm := .none },
  { cls := 8, slots := #[.long 22], vm := .none },
  { cls := 8, slots := #[.long 23], vm := .none },
  { cls := 8, slots := #[.long 24], vm := .none },
  { cls := 8, slots := #[.long 25], vm := .none },
  { cls := 8, slots := #[.long 26], vm := .none },
  { cls := 8, slots := #[.long 27], vm := .none },
  { cls := 8, slots := #[.long 28], vm := .none },
  { cls := 8, slots := #[.long 29], vm := .none },
  { cls := 8, slots := #[.long 30], vm := .none },
  { cls := 8, slots := #[.long 31], vm := .none },
  { cls := 8, slots := #[.long 32], vm := .none },
  { cls := 8, slots := #[.long 33], vm := .none },
  { cls := 8, slots := #[.long 34], vm := .none },
  { cls := 8, slots := #[.long 35], vm := .none },
  { cls := 8, slots := #[.long 36], vm := .none },
  { cls := 8, slots := #[.long 37], vm := .none },
  { cls := 8, slots := #[.long 38], vm := .none },
  { cls := 8, slots := #[.long 39], vm := .none },
  { cls := 8, slots := #[.long 40], vm := .none },
  { cls := 8, slots := #[.long 41], vm := .none },
  { cls := 8, slots := #[.long 42], vm := .none },
  { cls := 8, slots := #[.long 43], vm := .none },
  { cls := 8, slots := #[.long 44], vm := .none },
  { cls := 8, slots := #[.long 45], vm := .none },
  { cls := 8, slots := #[.long 46], vm := .none },
  { cls := 8, slots := #[.long 47], vm := .none },
  { cls := 8, slots := #[.long 48], vm := .none },
  { cls := 8, slots := #[.long 49], vm := .none },
  { cls := 8, slots := #[.long 50], vm := .none },
  { cls := 8, slots := #[.long 51], vm := .none },
  { cls := 8, slots := #[.long 52], vm := .none },
  { cls := 8, slots := #[.long 53], vm := .none },
  { cls := 8, slots := #[.long 54], vm := .none },
  { cls := 8, slots := #[.long 55], vm := .none },
  { cls := 8, slots := #[.long 56], vm := .none },
  { cls := 8, slots := #[.long 57], vm := .none },
  { cls := 8, slots := #[.long 58], vm := .none },
  { cls := 8, slots := #[.long 59], vm := .none },
  { cls := 8, slots := #[.long 60], vm := .none },
  { cls := 8, slots := #[.long 61], vm := .none },
  { cls := 8, slots := #[.long 62], vm := .none },
  { cls := 8, slots := #[.long 63], vm := .none },
  { cls := 8, slots := #[.long 64], vm := .none },
  { cls := 8, slots := #[.long 65], vm := .none },
  { cls := 8, slots := #[.long 66], vm := .none },
  { cls := 8, slots := #[.long 67], vm := .none },
  { cls := 8, slots := #[.long 68], vm := .none },
  { cls := 8, slots := #[.long 69], vm := .none },
  { cls := 8, slots := #[.long 70], vm := .none },
  { cls := 8, slots := #[.long 71], vm := .none },
  { cls := 8, slots := #[.long 72], vm := .none },
  { cls := 8, slots := #[.long 73], vm := .none },
  { cls := 8, slots := #[.long 74], vm := .none },
  { cls := 8, slots := #[.long 75], vm := .none },
  { cls := 8, slots := #[.long 76], vm := .none },
  { cls := 8, slots := #[.long 77], vm := .none },
  { cls := 8, slots := #[.long 78], vm := .none },
  { cls := 8, slots := #[.long 79], vm := .none },
  { cls := 8, slots := #[.long 80], vm := .none },
  { cls := 8, slots := #[.long 81], vm := .none },
  { cls := 8, slots := #[.long 82], vm := .none },
  { cls := 8, slots := #[.long 83], vm := .none },
  { cls := 8, slots := #[.long 84], vm := .none },
  { cls := 8, slots := #[.long 85], vm := .none },
  { cls := 8, slots := #[.long 86], vm := .none },
  { cls := 8, slots := #[.long 87], vm := .none },
  { cls := 8, slots := #[.long 88], vm := .none },
  { cls := 8, slots := #[.long 89], vm := .none },
  { cls := 8, slots := #[.long 90], vm := .none },
  { cls := 8, slots := #[.long 91], vm := .none },
  { cls := 8, slots := #[.long 92], vm := .none },
  { cls := 8, slots := #[.long 93], vm := .none },
  { cls := 8, slots := #[.long 94], vm := .none },
  { cls := 8, slots := #[.long 95], vm := .none },
  { cls := 8, slots := #[.long 96], vm := .none },
  { cls := 8, slots := #[.long 97], vm := .none },
  { cls := 8, slots := #[.long 98], vm := .none },
  { cls := 8, slots := #[.long 99], vm := .none },
  { cls := 8, slots := #[.long 100], vm := .none },
  { cls := 8, slots := #[.long 101], vm := .none },
  { cls := 8, slots := #[.long 102], vm := .none },
  { cls := 8, slots := #[.long 103], vm := .none },
  { cls := 8, slots := #[.long 104], vm := .none },
  { cls := 8, slots := #[.long 105], vm := .none },
  { cls := 8, slots := #[.long 106], vm := .none },
  { cls := 8, slots := #[.long 107], vm := .none },
  { cls := 8, slots := #[.long 108], vm := .none },
  { cls := 8, slots := #[.long 109], vm := .none },
  { cls := 8, slots := #[.long 110], vm := .none },
  { cls := 8, slots := #[.long 111], vm := .none },
  { cls := 8, slots := #[.long 112], vm := .none },
  { cls := 8, slots := #[.long 113], vm := .none },
  { cls := 8, slots := #[.long 114], vm := .none },
  { cls := 8, slots := #[.long 115], vm := .none },
  { cls := 8, slots := #[.long 116], vm := .none },
  { cls := 8, slots := #[.long 117], vm := .none },
  { cls := 8, slots := #[.long 118], vm := .none },
  { cls := 8, slots := #[.long 119], vm := .none },
  { cls := 8, slots := #[.long 120], vm := .none },
  { cls := 8, slots := #[.long 121], vm := .none },
  { cls := 8, slots := #[.long 122], vm := .none },
  { cls := 8, slots := #[.long 123], vm := .none },
  { cls := 8, slots := #[.long 124], vm := .none },
  { cls := 8, slots := #[.long 125], vm := .none },
  { cls := 8, slots := #[.long 126], vm := .none },
  { cls := 8, slots := #[.long 127], vm := .none }]
def classes : Array Class := #[k0, k1, k2, k3, k4, k5, k6, k7, k8, k9, k10, k11, k12, k13, k14, k15]
def interned : List (Array UInt16 × Addr) := []
def slotsUsed : Nat := 515
def theMethod : MethodId := ⟨1, 1⟩
def args0 : Array Value := #[.long 5, .long 5, .long 5, .long 5, .int 5]
def aboutOver (below : List Frame) : State where
  vm := { classes := classes, interned := interned.toArray }
  heap := heap
  slotsUsed := slotsUsed
  threads := #[{ frames := .invoking theMethod args0 :: below }]
def below0 : List Frame := [.native { method := ⟨0, 0⟩, args := #[] }]
def about1 : State := aboutOver below0
def p0 : Program := .bare "" "" ""
def e0 : Env := launch0.env 0 0 0
theorem w_frames : about1.frames = Frame.invoking theMethod args0 :: below0 := rfl
set_option maxRecDepth 65536 in
theorem w_args : argsFit about1.vm theMethod args0 = true := by decide +kernel
set_option maxRecDepth 65536 in
theorem w_heap : heapFits about1 = true := by decide +kernel
set_option maxRecDepth 65536 in
theorem w_runnable : about1.curStatus? = some .runnable := by decide +kernel
set_option maxRecDepth 65536 in
theorem w_alone : about1.alone = true := by decide +kernel
set_option maxRecDepth 65536 in
theorem w_named : about1.methodNamed? x = some theMethod := by decide +kernel
set_option maxRecDepth 65536 in
theorem w_hears : about1.hears theMethod below0 = true := by decide +kernel
set_option maxRecDepth 65536 in
theorem w_ripe : about1.ripe theMethod args0 below0 = true := by decide +kernel
theorem w_running : about1.status = .running := rfl
set_option maxRecDepth 65536 in
theorem w_room : about1.hasRoom e0.platform room_1 = true :=
  launch0.hasRoom_least _ room_1 (by decide +kernel) (by decide +kernel) (by decide +kernel) (by decide +kernel) (by decide +kernel) (by decide +kernel)
theorem allAtoms_all (ts : List Jvm.Cond) (a : Array Jvm.Value) (st : Jvm.State) : (allAtoms ts).before a st = ts.all (fun c => c.before a st) := by
  induction ts with
  | nil => rfl
  | cons c t ih =>
    show (Jvm.Cond.and c (allAtoms t)).before a st = _
    rw [Jvm.Cond.before_and, ih, List.all_cons]
def words1 : List Jvm.Cond := Jvm.Cond.code x code maxLocals ret :: tables_1
/-- a 'code' word, met by the world's own term for the bytes: nothing is compared byte by byte -/
theorem code_word {y : MethodName} {bytes : ByteArray} {mx : Nat} {rt : Option FieldType} {a : Array Value} {s : State} {m : MethodId} {meth : Method} {c : Code} (h1 : s.methodNamed? y = some m) (h2 : s.vm.method? m = some meth) (h3 : meth.code = some c) (h4 : c.code = bytes)
    (h5 : (c.maxLocals == mx && c.exceptionTable.isEmpty && decide (c.maxStack ≤ mostOperands) && decide (meth.sig.returnType = rt) && !meth.locks && decide (parseMethodDescriptor y.desc = some meth.sig)) = true) : (Jvm.Cond.code y bytes mx rt).before a s = true := by
  simp only [Bool.and_eq_true, beq_iff_eq, Bool.not_eq_true', decide_eq_true_eq] at h5
  obtain ⟨⟨⟨⟨⟨g1, g2⟩, g3⟩, g4⟩, g5⟩, g6⟩ := h5
  simp [Cond.before, Cond.holds, Cond.value, h1, h2, h3, h4, g1, g2, g3, g4, g5, g6]
def isCode : Jvm.Cond → Bool
  | .code _ _ _ _ => true
  | _ => false
theorem all_split {L : List Jvm.Cond} {P : Jvm.Cond → Bool} (h1 : L.all (fun c => isCode c || P c) = true) (h2 : ∀ c ∈ L.filter isCode, P c = true) : L.all P = true := by
  refine List.all_eq_true.mpr fun c hc => ?_
  have h := List.all_eq_true.mp h1 c hc
  rcases Bool.eq_false_or_eq_true (isCode c) with hi | hi
  · exact h2 c (List.mem_filter.mpr ⟨hc, hi⟩)
  · simpa [hi] using h
set_option maxRecDepth 65536 in
theorem w_c0 : (Jvm.Cond.code x code maxLocals ret).before args0 about1 = true := code_word (m := ⟨1, 1⟩) (meth := k1m1) (c := k1c1) (by decide +kernel) rfl rfl rfl (by decide +kernel)
set_option maxRecDepth 65536 in
theorem w_c1 : (Jvm.Cond.code ({ cls := "com/example/epoch/epoch/Trimmed", name := "<init>", desc := "(JJ)V" } : Jvm.MethodName) prog_32_method_1_code (5 : Nat) (Option.none : Option Jvm.ClassFile.FieldType)).before args0 about1 = true := code_word (m := ⟨2, 0⟩) (meth := k2m0) (c := k2c0) (by decide +kernel) rfl rfl rfl (by decide +kernel)
set_option maxRecDepth 65536 in
theorem w_c2 : (Jvm.Cond.code ({ cls := "java/lang/Object", name := "<init>", desc := "()V" } : Jvm.MethodName) object_method_1_code (1 : Nat) (Option.none : Option Jvm.ClassFile.FieldType)).before args0 about1 = true := code_word (m := ⟨0, 0⟩) (meth := k0m0) (c := k0c0) (by decide +kernel) rfl rfl rfl (by decide +kernel)
set_option maxRecDepth 65536 in
theorem w_c3 : (Jvm.Cond.code ({ cls := "com/example/epoch/epoch/Trimmed", name := "equals", desc := "(Ljava/lang/Object;)Z" } : Jvm.MethodName) prog_32_method_4_code (3 : Nat) (Option.some Jvm.ClassFile.FieldType.boolean)).before args0 about1 = true := code_word (m := ⟨2, 1⟩) (meth := k2m1) (c := k2c1) (by decide +kernel) rfl rfl rfl (by decide +kernel)
set_option maxRecDepth 65536 in
theorem w_c4 : (Jvm.Cond.code ({ cls := "java/lang/Long", name := "valueOf", desc := "(J)Ljava/lang/Long;" } : Jvm.MethodName) jdk_35_method_24_code (3 : Nat) (Option.some (Jvm.ClassFile.FieldType.object "java/lang/Long"))).before args0 about1 = true := code_word (m := ⟨8, 0⟩) (meth := k8m0) (c := k8c0) (by decide +kernel) rfl rfl rfl (by decide +kernel)
set_option maxRecDepth 65536 in
theorem w_c5 : (Jvm.Cond.code ({ cls := "java/lang/Long", name := "<init>", desc := "(J)V" } : Jvm.MethodName) jdk_35_method_26_code (3 : Nat) (Option.none : Option Jvm.ClassFile.FieldType)).before args0 about1 = true := code_word (m := ⟨8, 1⟩) (meth := k8m1) (c := k8c1) (by decide +kernel) rfl rfl rfl (by decide +kernel)
set_option maxRecDepth 65536 in
theorem w_c6 : (Jvm.Cond.code ({ cls := "java/lang/Number", name := "<init>", desc := "()V" } : Jvm.MethodName) jdk_18_method_1_code (1 : Nat) (Option.none : Option Jvm.ClassFile.FieldType)).before args0 about1 = true := code_word (m := ⟨4, 0⟩) (meth := k4m0) (c := k4c0) (by decide +kernel) rfl rfl rfl (by decide +kernel)
def codes1 : List Jvm.Cond := [Jvm.Cond.code x code maxLocals ret, Jvm.Cond.code ({ cls := "com/example/epoch/epoch/Trimmed", name := "<init>", desc := "(JJ)V" } : Jvm.MethodName) prog_32_method_1_code (5 : Nat) (Option.none : Option Jvm.ClassFile.FieldType), Jvm.Cond.code ({ cls := "java/lang/Object", name := "<init>", desc := "()V" } : Jvm.MethodName) object_method_1_code (1 : Nat) (Option.none : Option Jvm.ClassFile.FieldType), Jvm.Cond.code ({ cls := "com/example/epoch/epoch/Trimmed", name := "equals", desc := "(Ljava/lang/Object;)Z" } : Jvm.MethodName) prog_32_method_4_code (3 : Nat) (Option.some Jvm.ClassFile.FieldType.boolean), Jvm.Cond.code ({ cls := "java/lang/Long", name := "valueOf", desc := "(J)Ljava/lang/Long;" } : Jvm.MethodName) jdk_35_method_24_code (3 : Nat) (Option.some (Jvm.ClassFile.FieldType.object "java/lang/Long")), Jvm.Cond.code ({ cls := "java/lang/Long", name := "<init>", desc := "(J)V" } : Jvm.MethodName) jdk_35_method_26_code (3 : Nat) (Option.none : Option Jvm.ClassFile.FieldType), Jvm.Cond.code ({ cls := "java/lang/Number", name := "<init>", desc := "()V" } : Jvm.MethodName) jdk_18_method_1_code (1 : Nat) (Option.none : Option Jvm.ClassFile.FieldType)]
set_option maxRecDepth 65536 in
theorem codes_eq : words1.filter isCode = codes1 := rfl
theorem w_codes : ∀ c ∈ words1.filter isCode, c.before args0 about1 = true := by
  rw [codes_eq]
  intro c hc
  simp only [codes1, List.mem_cons, List.not_mem_nil, or_false] at hc
  rcases hc with rfl | rfl | rfl | rfl | rfl | rfl | rfl
  · exact w_c0
  · exact w_c1
  · exact w_c2
  · exact w_c3
  · exact w_c4
  · exact w_c5
  · exact w_c6
set_option maxRecDepth 65536 in
theorem w_t1 : (words1.take 24).all (fun c => isCode c || c.before args0 about1) = true := by decide +kernel
set_option maxRecDepth 65536 in
theorem w_t2 : (words1.drop 24).all (fun c => isCode c || c.before args0 about1) = true := by decide +kernel
theorem w_tables : (allAtoms (Jvm.Cond.code x code maxLocals ret :: tables_1)).before args0 about1 = true := by
  rw [allAtoms_all]
  show words1.all (fun c => c.before args0 about1) = true
  refine all_split ?_ w_codes
  rw [← List.take_append_drop 24 words1, List.all_append, w_t1, w_t2]
  rfl
set_option maxRecDepth 65536 in
theorem w_rest : rest_1_c.before args0 about1 = true := by decide +kernel
set_option maxRecDepth 65536 in
theorem w_case : (Jvm.Cond.and given_1 narrow_1).before args0 about1 = true := by decide +kernel
theorem w_applies : (headSpec (Jvm.Cond.code x code maxLocals ret :: tables_1) room_1).applies x e0.platform about1 = true :=
  (Spec.applies_iff w_frames).mpr ⟨w_running, w_runnable, w_alone, w_named, w_hears, w_ripe, w_room, w_tables⟩
theorem atStart : AtStart classFile x code maxLocals ret World_1 tables_1 room_1 Calls_1 rest_1 Pre_1 launch0 p0 e0 about1 theMethod args0 below0 :=
  ⟨lists_1, trivial, launch0.admits_env _ _ _, launch0.least_env, fairChoices_fair.cas, fairChoices_fair.clock, w_frames, w_args, w_heap, w_applies, trivial, w_rest, w_case⟩
end start1
theorem witness_1 : WitnessClaimed_1 := ⟨start1.p0, start1.e0, start1.about1, start1.theMethod, start1.args0, start1.below0, start1.atStart⟩
end Jvm.Pilot.@@N@@
