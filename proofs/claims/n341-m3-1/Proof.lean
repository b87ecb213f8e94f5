import JvmDerived
import JvmDerived.Pilot.@@N@@Statement
import JvmDerived.Pilot.@@N@@Code
set_option linter.unusedVariables false
set_option linter.unusedSimpArgs false
namespace Jvm.Pilot.@@N@@
open Jvm Jvm.ClassFile Sem Op Lib Jvm.Free Jvm.Stand Jvm.LawKit Jvm.RoadKit Bundle Jvm.Pilot.@@N@@.Jvm.D
def own_Fin (p : Program) (e : Env) (below : List Frame) (P : State → Outcome → Prop) (a : State) : Prop := ∃ t o, Steps p.tables e below a t ∧ t.status = .running ∧ Ended t below o ∧ P t o
theorem own_fin {p : Program} {e : Env} {below : List Frame} {P : State → Outcome → Prop} {a b : State} (k : ∀ t, Steps p.tables e below b t → Steps p.tables e below a t) (h : own_Fin p e below P b) : own_Fin p e below P a := by
  obtain ⟨t, o, s, r⟩ := h
  exact ⟨t, o, k t s, r⟩
theorem own_rw {T : State} {h : Heap} {a : Addr} {c : Cell} (e : T.heap = h) (q : h[a]? = some c) : T.heap[a]? = some c := by rw [e]; exact q
theorem own_StaKeep {Z : State} {h : Heap} {C n d : String} {v : Value} {n0 : Nat} (O : Old Z n0 h) (F : Sta Z Z.heap C n d v) : Sta Z h C n d v := F.ext O.2

theorem own_NSroot {Z : State} {a0 : Array Value} {O K : String} {n : Nat} (w : (Jvm.Cond.noSuperclass O).before a0 Z = true) (wk : (Jvm.Cond.instantiable K n).before a0 Z = true) (hn : O ≠ K) : NS Z O K := by
  obtain ⟨c, k, h1, h2, h3, -, -⟩ := Cond.noSuperclass_spec w
  obtain ⟨t, -, g1, -⟩ := Cond.instantiable_spec wk
  have ne := ids_ne h1 g1 hn
  refine ⟨c, t, h1, g1, fun fuel => ?_⟩
  match fuel with
  | 0 => rfl
  | f + 1 => simp [Vm.isSubclassAux, ne, h2, h3]
theorem own_NSno {Z : State} {a0 : Array Value} {C S K : String} {n : Nat} (w : (Jvm.Cond.superclass C S).before a0 Z = true) (wk : (Jvm.Cond.instantiable K n).before a0 Z = true) (q : NS Z C K) (hn : C ≠ K) : ∃ c t, Z.vm.findClass C = some c ∧ Z.vm.findClass K = some t ∧ Z.vm.assignable c t = false := by
  obtain ⟨c, t, h0, g0, n3⟩ := q
  obtain ⟨_, k, _, -, h2, -, -, h5, -, h7⟩ := Cond.superclass_spec h0 w
  obtain ⟨t', k', g1, g2, g5, g7, -, -⟩ := Cond.instantiable_spec wk
  cases g0.symm.trans g1
  have g8 : k'.isInterface = false := by cases hq : k'.isInterface <;> simp [hq] at g7 ⊢
  have ne := ids_ne h0 g0 hn
  refine ⟨c, t, h0, g0, ?_⟩
  show Z.vm.assignableAux (255 + 1) c t = false
  simp [Vm.assignableAux, ne, h2, g2, h5, g5, g8, Vm.isSubclass, n3]
theorem own_sym {α β : Type} [DecidableEq α] [DecidableEq β] (a b : α) (c d : β) : (if a = b then (if c = d then (1 : Int32) else (0 : Int32)) else (0 : Int32)) = (if b = a then (if d = c then (1 : Int32) else (0 : Int32)) else (0 : Int32)) := by
  by_cases h : a = b
  · subst h
    by_cases g : c = d
    · subst g; rfl
    · rw [if_pos rfl, if_pos rfl, if_neg g, if_neg (Ne.symm g)]
  · rw [if_neg h, if_neg (Ne.symm h)]
def own_Cache (Z : State) (ca : Addr) (cl : Cell) : Prop := Arr Z Z.heap ca cl (.object "java/lang/Long") ∧ cl.slots.size = 256 ∧ ∀ j : Int32, ¬ (j < 0 ∨ cl.slots.size ≤ j.toNatClampNeg) → ∃ x, cl.slots[j.toNatClampNeg]? = some (.ref x) ∧ Exa Z Z.heap x "java/lang/Long"
abbrev own_ct : Jvm.Term := Jvm.Term.static "java/lang/Long$LongCache" "cache" "[Ljava/lang/Long;"
theorem own_cache {args : Array Value} {s : State} {d : Jvm.Cond} (w2 : (Jvm.Cond.arrayOf own_ct (.object "java/lang/Long")).before args s = true) (w4 : (Jvm.Cond.eq (Jvm.Term.length own_ct) (Jvm.Term.int (256 : Int32))).before args s = true)
    (w5 : (Jvm.Cond.all own_ct (Jvm.Cond.and (Jvm.Cond.exactly (Jvm.Term.elem own_ct (Jvm.Term.index (0 : Nat))) "java/lang/Long") d)).before args s = true) :
    ∃ ca cl, own_ct.eval args s none [] s = some (.ref ca) ∧ own_Cache s ca cl := by
  obtain ⟨ca, ev⟩ := arr_v (Cond.before_iff.mp w2)
  obtain ⟨cl, A⟩ := Arr.start ev (Cond.before_iff.mp w2)
  have hat : s.arrayAt? ca = some cl := IntBox.arrayAt_of A.1 A.2.1 A.2.2
  obtain ⟨h1, h2⟩ := IntBox.length_fwd w4 ev A.1 A.2.1 A.2.2
  have hz : cl.slots.size = 256 := by
    have e := len_toInt h1
    rw [h2] at e
    have e2 : (256 : Int32).toInt = 256 := rfl
    omega
  have hall := Cond.all_elim ev hat (Cond.before_iff.mp w5)
  refine ⟨ca, cl, ev, A, hz, fun j hj => ?_⟩
  have hlt : j.toNatClampNeg < cl.slots.size := Nat.lt_of_not_le fun q => hj (Or.inr q)
  have hjn : ¬ j < 0 := fun q => hj (Or.inl q)
  obtain ⟨hx, -⟩ := and_e (hall _ hlt)
  obtain ⟨x, ex⟩ := exa_v hx
  have evi : own_ct.eval args s none [j.toNatClampNeg] s = some (.ref ca) := ev
  have e1 := elem_f (a := Jvm.Term.index (0 : Nat)) evi (idx_at (args := args) (s := s) (first := s) (o := none) hjn) hat hjn
  exact ⟨x, e1.symm.trans ex, exa_at ex hx⟩
theorem own_d1_0 : decode prog_1_method_1_code 0 = .ok (.aload_n 0, 1) := by decide +kernel
theorem own_d1_1 : decode prog_1_method_1_code 1 = .ok (.invokespecial 1, 3) := by decide +kernel
theorem own_d1_4 : decode prog_1_method_1_code 4 = .ok (.aload_n 0, 1) := by decide +kernel
theorem own_d1_5 : decode prog_1_method_1_code 5 = .ok (.iload_n 1, 1) := by decide +kernel
theorem own_d1_6 : decode prog_1_method_1_code 6 = .ok (.putfield 7, 3) := by decide +kernel
theorem own_d1_9 : decode prog_1_method_1_code 9 = .ok (.aload_n 0, 1) := by decide +kernel
theorem own_d1_10 : decode prog_1_method_1_code 10 = .ok (.lload_n 2, 1) := by decide +kernel
theorem own_d1_11 : decode prog_1_method_1_code 11 = .ok (.putfield 13, 3) := by decide +kernel
theorem own_d1_14 : decode prog_1_method_1_code 14 = .ok (.return_, 1) := by decide +kernel
theorem own_pn_com_example_epoch_epoch_Accepted : plainName "com/example/epoch/epoch/Accepted" = true := by first | (simp [plainName, overriddenIn]; done) | decide +kernel
theorem own_ef_rm_acc (mM : MethodId) (x0 : Addr) (x1 : Int32) (x2 : Int64) : entryFrame mM #[(.ref x0), (.int x1), (.long x2)] 4 = mkF mM 0 #[.val (.ref x0), .val (.int x1), .val (.long x2), .second] [] := by first | (simp [entryFrame, mkF, argsToLocals, Value.category]; done) | rfl
def Q_rm_acc (Z : State) (a : Addr) (p0 : Int32) (q1 : Int64) (h0 : Heap) (n0 : Nat) (vV : Option Value) (hH : Heap) (lA : List Loc) : Prop := vV = none ∧ Fr n0 lA ∧ (Keep h0 hH [a]) ∧ (Exa Z hH a "com/example/epoch/epoch/Accepted") ∧ (Fld Z hH a "com/example/epoch/epoch/Accepted" "appended" "I" (.int p0)) ∧ (Fld Z hH a "com/example/epoch/epoch/Accepted" "lastSequence" "J" (.long q1))
set_option maxRecDepth 65536 in
set_option maxHeartbeats 40000000 in
theorem rm_acc (lL : Launch) (Z : State) (a0 : Array Value) (hw : ∀ d ∈ tables_1, d.before a0 Z = true) (ws : List Jvm.Cond) (a : Addr) (p0 : Int32) (q1 : Int64) (h0 : Heap) (n0 : Nat) (Z0 : n0 ≤ h0.size) (Ea : Exa Z h0 a "com/example/epoch/epoch/Accepted") (F0 : Fld Z h0 a "com/example/epoch/epoch/Accepted" "appended" "I" (.int (0 : Int32))) (F1 : Fld Z h0 a "com/example/epoch/epoch/Accepted" "lastSequence" "J" (.long (0 : Int64))) (ga : n0 ≤ a) :
    MetFree lL (⟨"com/example/epoch/epoch/Accepted", "<init>", "(IJ)V"⟩ : MethodName) (head1 (Jvm.Cond.code (⟨"com/example/epoch/epoch/Accepted", "<init>", "(IJ)V"⟩ : MethodName) prog_1_method_1_code 4 none :: ws) ({ frames := 1, cells := 0, slots := 0, locals := 12 } : Room)) (fun aA uU => aA = #[(.ref a), (.int p0), (.long q1)] ∧ Z.Warmed39 uU.vm ∧ uU.heap = h0) (fun _ _ _ _ _ => True) (fun _ uU oO uU' => ∃ vV lA, oO = .returned vV ∧ Q_rm_acc Z a p0 q1 h0 n0 vV uU'.heap lA ∧ FrameEnd uU oO uU' lA ({ frames := 1, cells := 0, slots := 0, locals := 12 } : Room).cells ({ frames := 1, cells := 0, slots := 0, locals := 12 } : Room).slots) := by
  refine MetFree.of_bodySF (plainFor_of_name own_pn_com_example_epoch_epoch_Accepted) hisR ?_
  intro pP eE sS mM args below meth cC s₁ Bd hml0 hP hK
  obtain ⟨rfl, hZ, hh⟩ := hP
  have hx := Bd.exec
  have hby := Bd.bytes
  have hml : cC.maxLocals = 4 := hml0
  have hown : sS.vm.findClass "com/example/epoch/epoch/Accepted" = some mM.cls := findClass_of_methodNamed Bd.named
  have hnm := (name_of_methodNamed Bd.named Bd.method).1
  have X0 : Stand pP lL eE ({ frames := 1, cells := 0, slots := 0, locals := 12 } : Room) sS mM #[(.ref a), (.int p0), (.long q1)] below meth cC s₁ [] 0 0 := Stand.of_body Bd
  have e0 : s₁.heap = h0 := by rw [← hh, Bd.state]; rfl
  have N0 := Fr.nil n0
  have K0 := Keep.refl h0 [a]
  show own_Fin pP eE below (fun tT oO => ∃ vV lA, oO = .returned vV ∧ Q_rm_acc Z a p0 q1 h0 n0 vV tT.heap lA ∧ FrameEnd sS oO tT lA ({ frames := 1, cells := 0, slots := 0, locals := 12 } : Room).cells ({ frames := 1, cells := 0, slots := 0, locals := 12 } : Room).slots) (s₁.setTop (entryFrame mM #[(.ref a), (.int p0), (.long q1)] 4))
  refine own_fin (b := s₁.setTop (mkF mM 0 #[.val (.ref a), .val (.int p0), .val (.long q1), .second] [])) (fun tT kK => castTop (own_ef_rm_acc mM a p0 q1) kK) ?_
  refine own_fin (b := s₁.setTop (mkF mM 1 #[.val (.ref a), .val (.int p0), .val (.long q1), .second] [(.ref a)])) (fun tT kK => ?_) ?_
  · show Steps pP.tables eE below (s₁.setTop (mkF mM 0 #[.val (.ref a), .val (.int p0), .val (.long q1), .second] [])) tT
    refine XS.aloadN X0.here hx rfl (Jvm.hb hby own_d1_0) rfl rfl ?_
    show Steps pP.tables eE below (s₁.setTop (mkF mM 1 #[.val (.ref a), .val (.int p0), .val (.long q1), .second] [(.ref a)])) tT
    exact kK
  obtain ⟨T1_, X1_, e1_, st1_⟩ := initO X0 hx hZ hown (hw _ (List.mem_of_getElem? (i := 6) rfl)) (hw _ (List.mem_of_getElem? (i := 7) rfl)) (hw _ (List.mem_of_getElem? (i := 8) rfl)) e0 (g := (mkF mM 1 #[.val (.ref a), .val (.int p0), .val (.long q1), .second] [(.ref a)])) rfl (by rw [hml]; rfl) rfl (Jvm.hb hby own_d1_1) (by decide) (W := 0) (by show 2 * 0 + _ ≤ _; exact Nat.le_of_eq rfl) (by decide)
  refine own_fin st1_ ?_
  show own_Fin pP eE below _ (T1_.setTop (mkF mM 4 #[.val (.ref a), .val (.int p0), .val (.long q1), .second] []))
  refine own_fin (b := T1_.setTop (mkF mM 6 #[.val (.ref a), .val (.int p0), .val (.long q1), .second] [(.int p0), (.ref a)])) (fun tT kK => ?_) ?_
  · show Steps pP.tables eE below (T1_.setTop (mkF mM 4 #[.val (.ref a), .val (.int p0), .val (.long q1), .second] [])) tT
    refine XS.aloadN X1_.here hx rfl (Jvm.hb hby own_d1_4) rfl rfl ?_
    show Steps pP.tables eE below (T1_.setTop (mkF mM 5 #[.val (.ref a), .val (.int p0), .val (.long q1), .second] [(.ref a)])) tT
    refine XS.iloadN X1_.here hx rfl (Jvm.hb hby own_d1_5) rfl ?_
    show Steps pP.tables eE below (T1_.setTop (mkF mM 6 #[.val (.ref a), .val (.int p0), .val (.long q1), .second] [(.int p0), (.ref a)])) tT
    exact kK
  obtain ⟨T2_, h2_, X2_, e2_, W2_, st2_⟩ := putF X1_ hx hZ hown (host := "") (Or.inl (hw _ (List.mem_of_getElem? (i := 9) rfl))) Via.refl e1_ F0 Ea (Or.inr ⟨(hw _ (List.mem_of_getElem? (i := 10) rfl)), rfl, hnm⟩) (hw _ (List.mem_of_getElem? (i := 1) rfl)) (ty := .int) (by decide) rfl rfl (g := (mkF mM 6 #[.val (.ref a), .val (.int p0), .val (.long q1), .second] [(.int p0), (.ref a)])) rfl rfl (Jvm.hb hby own_d1_6)
  have Fw2_ := F0.same W2_
  have fc3_ := Ea.wr W2_
  have fc4_ := F1.other W2_ (Or.inr (slot_ne (Or.inr (hw _ (List.mem_of_getElem? (i := 12) rfl))) (Or.inr (hw _ (List.mem_of_getElem? (i := 10) rfl))) (by decide) (t := .long) (t' := .int) (by decide) (by decide)))
  have K2_ := K0.wr W2_ (Or.inl (List.mem_of_getElem? (i := 0) rfl))
  have N2_ := Fr.snoc X2_ N0 ga
  refine own_fin st2_ ?_
  show own_Fin pP eE below _ (T2_.setTop (mkF mM 9 #[.val (.ref a), .val (.int p0), .val (.long q1), .second] []))
  refine own_fin (b := T2_.setTop (mkF mM 11 #[.val (.ref a), .val (.int p0), .val (.long q1), .second] [(.long q1), (.ref a)])) (fun tT kK => ?_) ?_
  · show Steps pP.tables eE below (T2_.setTop (mkF mM 9 #[.val (.ref a), .val (.int p0), .val (.long q1), .second] [])) tT
    refine XS.aloadN X2_.here hx rfl (Jvm.hb hby own_d1_9) rfl rfl ?_
    show Steps pP.tables eE below (T2_.setTop (mkF mM 10 #[.val (.ref a), .val (.int p0), .val (.long q1), .second] [(.ref a)])) tT
    refine XS.lloadN X2_.here hx rfl (Jvm.hb hby own_d1_10) rfl ?_
    show Steps pP.tables eE below (T2_.setTop (mkF mM 11 #[.val (.ref a), .val (.int p0), .val (.long q1), .second] [(.long q1), (.ref a)])) tT
    exact kK
  obtain ⟨T5_, h5_, X5_, e5_, W5_, st5_⟩ := putF X2_ hx hZ hown (host := "") (Or.inl (hw _ (List.mem_of_getElem? (i := 11) rfl))) Via.refl e2_ fc4_ fc3_ (Or.inr ⟨(hw _ (List.mem_of_getElem? (i := 12) rfl)), rfl, hnm⟩) (hw _ (List.mem_of_getElem? (i := 1) rfl)) (ty := .long) (by decide) rfl rfl (g := (mkF mM 11 #[.val (.ref a), .val (.int p0), .val (.long q1), .second] [(.long q1), (.ref a)])) rfl rfl (Jvm.hb hby own_d1_11)
  have Fw5_ := fc4_.same W5_
  have fc6_ := fc3_.wr W5_
  have fc7_ := Fw2_.other W5_ (Or.inr (slot_ne (Or.inr (hw _ (List.mem_of_getElem? (i := 10) rfl))) (Or.inr (hw _ (List.mem_of_getElem? (i := 12) rfl))) (by decide) (t := .int) (t' := .long) (by decide) (by decide)))
  have K5_ := K2_.wr W5_ (Or.inl (List.mem_of_getElem? (i := 0) rfl))
  have N5_ := Fr.snoc X5_ N2_ ga
  refine own_fin st5_ ?_
  show own_Fin pP eE below _ (T5_.setTop (mkF mM 14 #[.val (.ref a), .val (.int p0), .val (.long q1), .second] []))
  obtain ⟨fs, hr, hrun, hended, hW, hsame⟩ := X5_.leave (v := none) (fun _ => rfl)
  refine ⟨_, _, ?_, hrun, hended, _, _, rfl, ?_, ⟨_, rfl⟩, hW, hsame.mono (by decide) (by decide)⟩
  · show Steps pP.tables eE below (T5_.setTop (mkF mM 14 #[.val (.ref a), .val (.int p0), .val (.long q1), .second] [])) _
    exact X5_.returnOut hx Bd.returns (Jvm.hb hby own_d1_14) hr
  · show Q_rm_acc Z a p0 q1 h0 n0 _ T5_.heap _
    rw [e5_]
    exact ⟨rfl, N5_, K5_, fc6_, fc7_, Fw5_⟩
theorem own_d4_0 : decode prog_30_method_1_code 0 = .ok (.aload_n 0, 1) := by decide +kernel
theorem own_d4_1 : decode prog_30_method_1_code 1 = .ok (.invokespecial 1, 3) := by decide +kernel
theorem own_d4_4 : decode prog_30_method_1_code 4 = .ok (.aload_n 0, 1) := by decide +kernel
theorem own_d4_5 : decode prog_30_method_1_code 5 = .ok (.lload_n 1, 1) := by decide +kernel
theorem own_d4_6 : decode prog_30_method_1_code 6 = .ok (.putfield 7, 3) := by decide +kernel
theorem own_d4_9 : decode prog_30_method_1_code 9 = .ok (.aload_n 0, 1) := by decide +kernel
theorem own_d4_10 : decode prog_30_method_1_code 10 = .ok (.aload_n 3, 1) := by decide +kernel
theorem own_d4_11 : decode prog_30_method_1_code 11 = .ok (.putfield 13, 3) := by decide +kernel
theorem own_d4_14 : decode prog_30_method_1_code 14 = .ok (.return_, 1) := by decide +kernel
theorem own_pn_com_example_epoch_epoch_Superseded : plainName "com/example/epoch/epoch/Superseded" = true := by first | (simp [plainName, overriddenIn]; done) | decide +kernel
theorem own_ef_rm_sup (mM : MethodId) (x0 : Addr) (x1 : Int64) : entryFrame mM #[(.ref x0), (.long x1), .null] 4 = mkF mM 0 #[.val (.ref x0), .val (.long x1), .second, .val .null] [] := by first | (simp [entryFrame, mkF, argsToLocals, Value.category]; done) | rfl
def Q_rm_sup (Z : State) (a : Addr) (q0 : Int64) (h0 : Heap) (n0 : Nat) (vV : Option Value) (hH : Heap) (lA : List Loc) : Prop := vV = none ∧ Fr n0 lA ∧ (Keep h0 hH [a]) ∧ (Exa Z hH a "com/example/epoch/epoch/Superseded") ∧ (Fld Z hH a "com/example/epoch/epoch/Superseded" "epoch" "J" (.long q0)) ∧ (Fld Z hH a "com/example/epoch/epoch/Superseded" "contact" "Ljava/lang/String;" .null)
set_option maxRecDepth 65536 in
set_option maxHeartbeats 40000000 in
theorem rm_sup (lL : Launch) (Z : State) (a0 : Array Value) (hw : ∀ d ∈ tables_1, d.before a0 Z = true) (ws : List Jvm.Cond) (a : Addr) (q0 : Int64) (h0 : Heap) (n0 : Nat) (Z0 : n0 ≤ h0.size) (Ea : Exa Z h0 a "com/example/epoch/epoch/Superseded") (F0 : Fld Z h0 a "com/example/epoch/epoch/Superseded" "epoch" "J" (.long (0 : Int64))) (F1 : Fld Z h0 a "com/example/epoch/epoch/Superseded" "contact" "Ljava/lang/String;" .null) (ga : n0 ≤ a) :
    MetFree lL (⟨"com/example/epoch/epoch/Superseded", "<init>", "(JLjava/lang/String;)V"⟩ : MethodName) (head1 (Jvm.Cond.code (⟨"com/example/epoch/epoch/Superseded", "<init>", "(JLjava/lang/String;)V"⟩ : MethodName) prog_30_method_1_code 4 none :: ws) ({ frames := 1, cells := 0, slots := 0, locals := 12 } : Room)) (fun aA uU => aA = #[(.ref a), (.long q0), .null] ∧ Z.Warmed39 uU.vm ∧ uU.heap = h0) (fun _ _ _ _ _ => True) (fun _ uU oO uU' => ∃ vV lA, oO = .returned vV ∧ Q_rm_sup Z a q0 h0 n0 vV uU'.heap lA ∧ FrameEnd uU oO uU' lA ({ frames := 1, cells := 0, slots := 0, locals := 12 } : Room).cells ({ frames := 1, cells := 0, slots := 0, locals := 12 } : Room).slots) := by
  refine MetFree.of_bodySF (plainFor_of_name own_pn_com_example_epoch_epoch_Superseded) hisR ?_
  intro pP eE sS mM args below meth cC s₁ Bd hml0 hP hK
  obtain ⟨rfl, hZ, hh⟩ := hP
  have hx := Bd.exec
  have hby := Bd.bytes
  have hml : cC.maxLocals = 4 := hml0
  have hown : sS.vm.findClass "com/example/epoch/epoch/Superseded" = some mM.cls := findClass_of_methodNamed Bd.named
  have hnm := (name_of_methodNamed Bd.named Bd.method).1
  have X0 : Stand pP lL eE ({ frames := 1, cells := 0, slots := 0, locals := 12 } : Room) sS mM #[(.ref a), (.long q0), .null] below meth cC s₁ [] 0 0 := Stand.of_body Bd
  have e0 : s₁.heap = h0 := by rw [← hh, Bd.state]; rfl
  have N0 := Fr.nil n0
  have K0 := Keep.refl h0 [a]
  show own_Fin pP eE below (fun tT oO => ∃ vV lA, oO = .returned vV ∧ Q_rm_sup Z a q0 h0 n0 vV tT.heap lA ∧ FrameEnd sS oO tT lA ({ frames := 1, cells := 0, slots := 0, locals := 12 } : Room).cells ({ frames := 1, cells := 0, slots := 0, locals := 12 } : Room).slots) (s₁.setTop (entryFrame mM #[(.ref a), (.long q0), .null] 4))
  refine own_fin (b := s₁.setTop (mkF mM 0 #[.val (.ref a), .val (.long q0), .second, .val .null] [])) (fun tT kK => castTop (own_ef_rm_sup mM a q0) kK) ?_
  refine own_fin (b := s₁.setTop (mkF mM 1 #[.val (.ref a), .val (.long q0), .second, .val .null] [(.ref a)])) (fun tT kK => ?_) ?_
  · show Steps pP.tables eE below (s₁.setTop (mkF mM 0 #[.val (.ref a), .val (.long q0), .second, .val .null] [])) tT
    refine XS.aloadN X0.here hx rfl (Jvm.hb hby own_d4_0) rfl rfl ?_
    show Steps pP.tables eE below (s₁.setTop (mkF mM 1 #[.val (.ref a), .val (.long q0), .second, .val .null] [(.ref a)])) tT
    exact kK
  obtain ⟨T1_, X1_, e1_, st1_⟩ := initO X0 hx hZ hown (hw _ (List.mem_of_getElem? (i := 26) rfl)) (hw _ (List.mem_of_getElem? (i := 7) rfl)) (hw _ (List.mem_of_getElem? (i := 8) rfl)) e0 (g := (mkF mM 1 #[.val (.ref a), .val (.long q0), .second, .val .null] [(.ref a)])) rfl (by rw [hml]; rfl) rfl (Jvm.hb hby own_d4_1) (by decide) (W := 0) (by show 2 * 0 + _ ≤ _; exact Nat.le_of_eq rfl) (by decide)
  refine own_fin st1_ ?_
  show own_Fin pP eE below _ (T1_.setTop (mkF mM 4 #[.val (.ref a), .val (.long q0), .second, .val .null] []))
  refine own_fin (b := T1_.setTop (mkF mM 6 #[.val (.ref a), .val (.long q0), .second, .val .null] [(.long q0), (.ref a)])) (fun tT kK => ?_) ?_
  · show Steps pP.tables eE below (T1_.setTop (mkF mM 4 #[.val (.ref a), .val (.long q0), .second, .val .null] [])) tT
    refine XS.aloadN X1_.here hx rfl (Jvm.hb hby own_d4_4) rfl rfl ?_
    show Steps pP.tables eE below (T1_.setTop (mkF mM 5 #[.val (.ref a), .val (.long q0), .second, .val .null] [(.ref a)])) tT
    refine XS.lloadN X1_.here hx rfl (Jvm.hb hby own_d4_5) rfl ?_
    show Steps pP.tables eE below (T1_.setTop (mkF mM 6 #[.val (.ref a), .val (.long q0), .second, .val .null] [(.long q0), (.ref a)])) tT
    exact kK
  obtain ⟨T2_, h2_, X2_, e2_, W2_, st2_⟩ := putF X1_ hx hZ hown (host := "") (Or.inl (hw _ (List.mem_of_getElem? (i := 27) rfl))) Via.refl e1_ F0 Ea (Or.inr ⟨(hw _ (List.mem_of_getElem? (i := 28) rfl)), rfl, hnm⟩) (hw _ (List.mem_of_getElem? (i := 21) rfl)) (ty := .long) (by decide) rfl rfl (g := (mkF mM 6 #[.val (.ref a), .val (.long q0), .second, .val .null] [(.long q0), (.ref a)])) rfl rfl (Jvm.hb hby own_d4_6)
  have Fw2_ := F0.same W2_
  have fc3_ := Ea.wr W2_
  have fc4_ := F1.other W2_ (Or.inr (slot_ne (Or.inr (hw _ (List.mem_of_getElem? (i := 30) rfl))) (Or.inr (hw _ (List.mem_of_getElem? (i := 28) rfl))) (by decide) (t := (.object "java/lang/String")) (t' := .long) (by decide) (by decide)))
  have K2_ := K0.wr W2_ (Or.inl (List.mem_of_getElem? (i := 0) rfl))
  have N2_ := Fr.snoc X2_ N0 ga
  refine own_fin st2_ ?_
  show own_Fin pP eE below _ (T2_.setTop (mkF mM 9 #[.val (.ref a), .val (.long q0), .second, .val .null] []))
  refine own_fin (b := T2_.setTop (mkF mM 11 #[.val (.ref a), .val (.long q0), .second, .val .null] [.null, (.ref a)])) (fun tT kK => ?_) ?_
  · show Steps pP.tables eE below (T2_.setTop (mkF mM 9 #[.val (.ref a), .val (.long q0), .second, .val .null] [])) tT
    refine XS.aloadN X2_.here hx rfl (Jvm.hb hby own_d4_9) rfl rfl ?_
    show Steps pP.tables eE below (T2_.setTop (mkF mM 10 #[.val (.ref a), .val (.long q0), .second, .val .null] [(.ref a)])) tT
    refine XS.aloadN X2_.here hx rfl (Jvm.hb hby own_d4_10) rfl rfl ?_
    show Steps pP.tables eE below (T2_.setTop (mkF mM 11 #[.val (.ref a), .val (.long q0), .second, .val .null] [.null, (.ref a)])) tT
    exact kK
  obtain ⟨T5_, h5_, X5_, e5_, W5_, st5_⟩ := putF X2_ hx hZ hown (host := "") (Or.inl (hw _ (List.mem_of_getElem? (i := 29) rfl))) Via.refl e2_ fc4_ fc3_ (Or.inr ⟨(hw _ (List.mem_of_getElem? (i := 30) rfl)), rfl, hnm⟩) (hw _ (List.mem_of_getElem? (i := 21) rfl)) (ty := (.object "java/lang/String")) (by decide) rfl rfl (g := (mkF mM 11 #[.val (.ref a), .val (.long q0), .second, .val .null] [.null, (.ref a)])) rfl rfl (Jvm.hb hby own_d4_11)
  have Fw5_ := fc4_.same W5_
  have fc6_ := fc3_.wr W5_
  have fc7_ := Fw2_.other W5_ (Or.inr (slot_ne (Or.inr (hw _ (List.mem_of_getElem? (i := 28) rfl))) (Or.inr (hw _ (List.mem_of_getElem? (i := 30) rfl))) (by decide) (t := .long) (t' := (.object "java/lang/String")) (by decide) (by decide)))
  have K5_ := K2_.wr W5_ (Or.inl (List.mem_of_getElem? (i := 0) rfl))
  have N5_ := Fr.snoc X5_ N2_ ga
  refine own_fin st5_ ?_
  show own_Fin pP eE below _ (T5_.setTop (mkF mM 14 #[.val (.ref a), .val (.long q0), .second, .val .null] []))
  obtain ⟨fs, hr, hrun, hended, hW, hsame⟩ := X5_.leave (v := none) (fun _ => rfl)
  refine ⟨_, _, ?_, hrun, hended, _, _, rfl, ?_, ⟨_, rfl⟩, hW, hsame.mono (by decide) (by decide)⟩
  · show Steps pP.tables eE below (T5_.setTop (mkF mM 14 #[.val (.ref a), .val (.long q0), .second, .val .null] [])) _
    exact X5_.returnOut hx Bd.returns (Jvm.hb hby own_d4_14) hr
  · show Q_rm_sup Z a q0 h0 n0 _ T5_.heap _
    rw [e5_]
    exact ⟨rfl, N5_, K5_, fc6_, fc7_, Fw5_⟩
theorem own_d3_0 : decode prog_1_method_4_code 0 = .ok (.aload_n 1, 1) := by decide +kernel
theorem own_d3_1 : decode prog_1_method_4_code 1 = .ok (.instanceof 8, 3) := by decide +kernel
theorem own_d3_4 : decode prog_1_method_4_code 4 = .ok (.ifCond .eq 35, 3) := by decide +kernel
theorem own_d3_7 : decode prog_1_method_4_code 7 = .ok (.aload_n 1, 1) := by decide +kernel
theorem own_d3_8 : decode prog_1_method_4_code 8 = .ok (.checkcast 8, 3) := by decide +kernel
theorem own_d3_11 : decode prog_1_method_4_code 11 = .ok (.astore_n 2, 1) := by decide +kernel
theorem own_d3_12 : decode prog_1_method_4_code 12 = .ok (.aload_n 2, 1) := by decide +kernel
theorem own_d3_13 : decode prog_1_method_4_code 13 = .ok (.getfield 7, 3) := by decide +kernel
theorem own_d3_16 : decode prog_1_method_4_code 16 = .ok (.aload_n 0, 1) := by decide +kernel
theorem own_d3_17 : decode prog_1_method_4_code 17 = .ok (.getfield 7, 3) := by decide +kernel
theorem own_d3_20 : decode prog_1_method_4_code 20 = .ok (.if_icmp .ne 19, 3) := by decide +kernel
theorem own_d3_23 : decode prog_1_method_4_code 23 = .ok (.aload_n 2, 1) := by decide +kernel
theorem own_d3_24 : decode prog_1_method_4_code 24 = .ok (.getfield 13, 3) := by decide +kernel
theorem own_d3_27 : decode prog_1_method_4_code 27 = .ok (.aload_n 0, 1) := by decide +kernel
theorem own_d3_28 : decode prog_1_method_4_code 28 = .ok (.getfield 13, 3) := by decide +kernel
theorem own_d3_31 : decode prog_1_method_4_code 31 = .ok (.lcmp, 1) := by decide +kernel
theorem own_d3_32 : decode prog_1_method_4_code 32 = .ok (.ifCond .ne 7, 3) := by decide +kernel
theorem own_d3_35 : decode prog_1_method_4_code 35 = .ok (.iconst 1, 1) := by decide +kernel
theorem own_d3_36 : decode prog_1_method_4_code 36 = .ok (.goto 4, 3) := by decide +kernel
theorem own_d3_40 : decode prog_1_method_4_code 40 = .ok (.ireturn, 1) := by decide +kernel
theorem own_d3_39 : decode prog_1_method_4_code 39 = .ok (.iconst 0, 1) := by decide +kernel
theorem own_ef_rm_eq (mM : MethodId) (x0 : Addr) (x1 : Addr) : entryFrame mM #[(.ref x0), (.ref x1)] 3 = mkF mM 0 #[.val (.ref x0), .val (.ref x1), .unset] [] := by first | (simp [entryFrame, mkF, argsToLocals, Value.category]; done) | rfl
def Q_rm_eq (Z : State) (a : Addr) (o : Addr) (u1 : Int32) (u2 : Int64) (v1 : Int32) (v2 : Int64) (h0 : Heap) (n0 : Nat) (vV : Option Value) (hH : Heap) (lA : List Loc) : Prop := vV = some (.int (if v1 = u1 then (if v2 = u2 then (1 : Int32) else (0 : Int32)) else (0 : Int32))) ∧ Fr n0 lA ∧ (hH = h0)
set_option maxRecDepth 65536 in
set_option maxHeartbeats 40000000 in
theorem rm_eq (lL : Launch) (Z : State) (a0 : Array Value) (hw : ∀ d ∈ tables_1, d.before a0 Z = true) (ws : List Jvm.Cond) (a : Addr) (o : Addr) (u1 : Int32) (u2 : Int64) (v1 : Int32) (v2 : Int64) (h0 : Heap) (n0 : Nat) (Z0 : n0 ≤ h0.size) (Eo : Exa Z h0 o "com/example/epoch/epoch/Accepted") (Fa1 : Fld Z h0 a "com/example/epoch/epoch/Accepted" "appended" "I" (.int u1)) (Fa2 : Fld Z h0 a "com/example/epoch/epoch/Accepted" "lastSequence" "J" (.long u2)) (Fo1 : Fld Z h0 o "com/example/epoch/epoch/Accepted" "appended" "I" (.int v1)) (Fo2 : Fld Z h0 o "com/example/epoch/epoch/Accepted" "lastSequence" "J" (.long v2)) :
    MetFree lL (⟨"com/example/epoch/epoch/Accepted", "equals", "(Ljava/lang/Object;)Z"⟩ : MethodName) (head1 (Jvm.Cond.code (⟨"com/example/epoch/epoch/Accepted", "equals", "(Ljava/lang/Object;)Z"⟩ : MethodName) prog_1_method_4_code 3 (some .boolean) :: ws) ({ frames := 0, cells := 0, slots := 0, locals := 0 } : Room)) (fun aA uU => aA = #[(.ref a), (.ref o)] ∧ Z.Warmed39 uU.vm ∧ uU.heap = h0) (fun _ _ _ _ _ => True) (fun _ uU oO uU' => ∃ vV lA, oO = .returned vV ∧ Q_rm_eq Z a o u1 u2 v1 v2 h0 n0 vV uU'.heap lA ∧ FrameEnd uU oO uU' lA ({ frames := 0, cells := 0, slots := 0, locals := 0 } : Room).cells ({ frames := 0, cells := 0, slots := 0, locals := 0 } : Room).slots) := by
  refine MetFree.of_bodySF (plainFor_of_name own_pn_com_example_epoch_epoch_Accepted) hisR ?_
  intro pP eE sS mM args below meth cC s₁ Bd hml0 hP hK
  obtain ⟨rfl, hZ, hh⟩ := hP
  have hx := Bd.exec
  have hby := Bd.bytes
  have hml : cC.maxLocals = 3 := hml0
  have hown : sS.vm.findClass "com/example/epoch/epoch/Accepted" = some mM.cls := findClass_of_methodNamed Bd.named
  have hnm := (name_of_methodNamed Bd.named Bd.method).1
  have X0 : Stand pP lL eE ({ frames := 0, cells := 0, slots := 0, locals := 0 } : Room) sS mM #[(.ref a), (.ref o)] below meth cC s₁ [] 0 0 := Stand.of_body Bd
  have e0 : s₁.heap = h0 := by rw [← hh, Bd.state]; rfl
  have N0 := Fr.nil n0
  have K0 := Keep.refl h0 ([] : List Addr)
  show own_Fin pP eE below (fun tT oO => ∃ vV lA, oO = .returned vV ∧ Q_rm_eq Z a o u1 u2 v1 v2 h0 n0 vV tT.heap lA ∧ FrameEnd sS oO tT lA ({ frames := 0, cells := 0, slots := 0, locals := 0 } : Room).cells ({ frames := 0, cells := 0, slots := 0, locals := 0 } : Room).slots) (s₁.setTop (entryFrame mM #[(.ref a), (.ref o)] 3))
  refine own_fin (b := s₁.setTop (mkF mM 0 #[.val (.ref a), .val (.ref o), .unset] [])) (fun tT kK => castTop (own_ef_rm_eq mM a o) kK) ?_
  refine own_fin (b := s₁.setTop (mkF mM 1 #[.val (.ref a), .val (.ref o), .unset] [(.ref o)])) (fun tT kK => ?_) ?_
  · show Steps pP.tables eE below (s₁.setTop (mkF mM 0 #[.val (.ref a), .val (.ref o), .unset] [])) tT
    refine XS.aloadN X0.here hx rfl (Jvm.hb hby own_d3_0) rfl rfl ?_
    show Steps pP.tables eE below (s₁.setTop (mkF mM 1 #[.val (.ref a), .val (.ref o), .unset] [(.ref o)])) tT
    exact kK
  obtain ⟨T1_, X1_, e1_, st1_⟩ := instY X0 hx hZ hown (hw _ (List.mem_of_getElem? (i := 18) rfl)) e0 (Ins.self Eo) (g := (mkF mM 1 #[.val (.ref a), .val (.ref o), .unset] [(.ref o)])) rfl rfl (Jvm.hb hby own_d3_1)
  refine own_fin st1_ ?_
  show own_Fin pP eE below _ (T1_.setTop (mkF mM 4 #[.val (.ref a), .val (.ref o), .unset] [(.int (1 : Int32))]))
  refine own_fin (b := T1_.setTop (mkF mM 8 #[.val (.ref a), .val (.ref o), .unset] [(.ref o)])) (fun tT kK => ?_) ?_
  · show Steps pP.tables eE below (T1_.setTop (mkF mM 4 #[.val (.ref a), .val (.ref o), .unset] [(.int (1 : Int32))])) tT
    refine XS.ifNo X1_.here hx rfl (Jvm.hb hby own_d3_4) rfl ((if0 _ _).trans (feq ((by decide) : ¬ ((1 : Int32) = (0 : Int32)))).1) ?_
    show Steps pP.tables eE below (T1_.setTop (mkF mM 7 #[.val (.ref a), .val (.ref o), .unset] [])) tT
    refine XS.aloadN X1_.here hx rfl (Jvm.hb hby own_d3_7) rfl rfl ?_
    show Steps pP.tables eE below (T1_.setTop (mkF mM 8 #[.val (.ref a), .val (.ref o), .unset] [(.ref o)])) tT
    exact kK
  obtain ⟨T2_, X2_, e2_, st2_⟩ := castY X1_ hx hZ hown (hw _ (List.mem_of_getElem? (i := 18) rfl)) e1_ (Ins.self Eo) (g := (mkF mM 8 #[.val (.ref a), .val (.ref o), .unset] [(.ref o)])) rfl rfl (Jvm.hb hby own_d3_8)
  refine own_fin st2_ ?_
  show own_Fin pP eE below _ (T2_.setTop (mkF mM 11 #[.val (.ref a), .val (.ref o), .unset] [(.ref o)]))
  refine own_fin (b := T2_.setTop (mkF mM 13 #[.val (.ref a), .val (.ref o), .val (.ref o)] [(.ref o)])) (fun tT kK => ?_) ?_
  · show Steps pP.tables eE below (T2_.setTop (mkF mM 11 #[.val (.ref a), .val (.ref o), .unset] [(.ref o)])) tT
    refine XS.astoreN X2_.here hx rfl (Jvm.hb hby own_d3_11) rfl rfl (l' := #[.val (.ref a), .val (.ref o), .val (.ref o)]) rfl ?_
    show Steps pP.tables eE below (T2_.setTop (mkF mM 12 #[.val (.ref a), .val (.ref o), .val (.ref o)] [])) tT
    refine XS.aloadN X2_.here hx rfl (Jvm.hb hby own_d3_12) rfl rfl ?_
    show Steps pP.tables eE below (T2_.setTop (mkF mM 13 #[.val (.ref a), .val (.ref o), .val (.ref o)] [(.ref o)])) tT
    exact kK
  obtain ⟨T3_, X3_, e3_, st3_⟩ := getF X2_ hx hZ hown (host := "") (Or.inl (hw _ (List.mem_of_getElem? (i := 9) rfl))) Via.refl e2_ Fo1 (g := (mkF mM 13 #[.val (.ref a), .val (.ref o), .val (.ref o)] [(.ref o)])) rfl rfl (Jvm.hb hby own_d3_13)
  refine own_fin st3_ ?_
  show own_Fin pP eE below _ (T3_.setTop (mkF mM 16 #[.val (.ref a), .val (.ref o), .val (.ref o)] [(.int v1)]))
  refine own_fin (b := T3_.setTop (mkF mM 17 #[.val (.ref a), .val (.ref o), .val (.ref o)] [(.ref a), (.int v1)])) (fun tT kK => ?_) ?_
  · show Steps pP.tables eE below (T3_.setTop (mkF mM 16 #[.val (.ref a), .val (.ref o), .val (.ref o)] [(.int v1)])) tT
    refine XS.aloadN X3_.here hx rfl (Jvm.hb hby own_d3_16) rfl rfl ?_
    show Steps pP.tables eE below (T3_.setTop (mkF mM 17 #[.val (.ref a), .val (.ref o), .val (.ref o)] [(.ref a), (.int v1)])) tT
    exact kK
  obtain ⟨T4_, X4_, e4_, st4_⟩ := getF X3_ hx hZ hown (host := "") (Or.inl (hw _ (List.mem_of_getElem? (i := 9) rfl))) Via.refl e3_ Fa1 (g := (mkF mM 17 #[.val (.ref a), .val (.ref o), .val (.ref o)] [(.ref a), (.int v1)])) rfl rfl (Jvm.hb hby own_d3_17)
  refine own_fin st4_ ?_
  show own_Fin pP eE below _ (T4_.setTop (mkF mM 20 #[.val (.ref a), .val (.ref o), .val (.ref o)] [(.int u1), (.int v1)]))
  by_cases hc20_5_ : v1 = u1
  · refine own_fin (b := T4_.setTop (mkF mM 24 #[.val (.ref a), .val (.ref o), .val (.ref o)] [(.ref o)])) (fun tT kK => ?_) ?_
    · show Steps pP.tables eE below (T4_.setTop (mkF mM 20 #[.val (.ref a), .val (.ref o), .val (.ref o)] [(.int u1), (.int v1)])) tT
      refine XS.icmpNo X4_.here hx rfl (Jvm.hb hby own_d3_20) rfl (teq (hc20_5_ : v1 = u1)).2 ?_
      show Steps pP.tables eE below (T4_.setTop (mkF mM 23 #[.val (.ref a), .val (.ref o), .val (.ref o)] [])) tT
      refine XS.aloadN X4_.here hx rfl (Jvm.hb hby own_d3_23) rfl rfl ?_
      show Steps pP.tables eE below (T4_.setTop (mkF mM 24 #[.val (.ref a), .val (.ref o), .val (.ref o)] [(.ref o)])) tT
      exact kK
    obtain ⟨T6_, X6_, e6_, st6_⟩ := getF X4_ hx hZ hown (host := "") (Or.inl (hw _ (List.mem_of_getElem? (i := 11) rfl))) Via.refl e4_ Fo2 (g := (mkF mM 24 #[.val (.ref a), .val (.ref o), .val (.ref o)] [(.ref o)])) rfl rfl (Jvm.hb hby own_d3_24)
    refine own_fin st6_ ?_
    show own_Fin pP eE below _ (T6_.setTop (mkF mM 27 #[.val (.ref a), .val (.ref o), .val (.ref o)] [(.long v2)]))
    refine own_fin (b := T6_.setTop (mkF mM 28 #[.val (.ref a), .val (.ref o), .val (.ref o)] [(.ref a), (.long v2)])) (fun tT kK => ?_) ?_
    · show Steps pP.tables eE below (T6_.setTop (mkF mM 27 #[.val (.ref a), .val (.ref o), .val (.ref o)] [(.long v2)])) tT
      refine XS.aloadN X6_.here hx rfl (Jvm.hb hby own_d3_27) rfl rfl ?_
      show Steps pP.tables eE below (T6_.setTop (mkF mM 28 #[.val (.ref a), .val (.ref o), .val (.ref o)] [(.ref a), (.long v2)])) tT
      exact kK
    obtain ⟨T7_, X7_, e7_, st7_⟩ := getF X6_ hx hZ hown (host := "") (Or.inl (hw _ (List.mem_of_getElem? (i := 11) rfl))) Via.refl e6_ Fa2 (g := (mkF mM 28 #[.val (.ref a), .val (.ref o), .val (.ref o)] [(.ref a), (.long v2)])) rfl rfl (Jvm.hb hby own_d3_28)
    refine own_fin st7_ ?_
    show own_Fin pP eE below _ (T7_.setTop (mkF mM 31 #[.val (.ref a), .val (.ref o), .val (.ref o)] [(.long u2), (.long v2)]))
    refine own_fin (b := T7_.setTop (mkF mM 32 #[.val (.ref a), .val (.ref o), .val (.ref o)] [(.int (lcmpW v2 u2))])) (fun tT kK => ?_) ?_
    · show Steps pP.tables eE below (T7_.setTop (mkF mM 31 #[.val (.ref a), .val (.ref o), .val (.ref o)] [(.long u2), (.long v2)])) tT
      refine XS.lcmp X7_.here hx rfl (Jvm.hb hby own_d3_31) rfl ?_
      show Steps pP.tables eE below (T7_.setTop (mkF mM 32 #[.val (.ref a), .val (.ref o), .val (.ref o)] [(.int (lcmpW v2 u2))])) tT
      exact kK
    by_cases hc32_8_ : v2 = u2
    · refine own_fin (b := T7_.setTop (mkF mM 40 #[.val (.ref a), .val (.ref o), .val (.ref o)] [(.int (1 : Int32))])) (fun tT kK => ?_) ?_
      · show Steps pP.tables eE below (T7_.setTop (mkF mM 32 #[.val (.ref a), .val (.ref o), .val (.ref o)] [(.int (lcmpW v2 u2))])) tT
        refine XS.ifNo X7_.here hx rfl (Jvm.hb hby own_d3_32) rfl ((if0 _ _).trans (teq ((lw_eq v2 u2).mpr (hc32_8_ : v2 = u2))).2) ?_
        show Steps pP.tables eE below (T7_.setTop (mkF mM 35 #[.val (.ref a), .val (.ref o), .val (.ref o)] [])) tT
        refine XS.iconst X7_.here hx rfl (Jvm.hb hby own_d3_35) ?_
        show Steps pP.tables eE below (T7_.setTop (mkF mM 36 #[.val (.ref a), .val (.ref o), .val (.ref o)] [(.int (1 : Int32))])) tT
        refine XS.goto X7_.here hx rfl (pc0 := 36) (pc' := 40) rfl (Jvm.hb hby own_d3_36) (by decide) (by decide) ?_
        show Steps pP.tables eE below (T7_.setTop (mkF mM 40 #[.val (.ref a), .val (.ref o), .val (.ref o)] [(.int (1 : Int32))])) tT
        exact kK
      obtain ⟨fs, hr, hrun, hended, hW, hsame⟩ := X7_.leave (v := some (.int (1 : Int32))) (fun h => by rw [Bd.returns] at h; cases h)
      refine ⟨_, _, ?_, hrun, hended, _, _, rfl, ?_, ⟨_, rfl⟩, hW, hsame.mono (by decide) (by decide)⟩
      · show Steps pP.tables eE below (T7_.setTop (mkF mM 40 #[.val (.ref a), .val (.ref o), .val (.ref o)] [(.int (1 : Int32))])) _
        exact retN X7_ hx (t := .boolean) Bd.returns (by simp) (Jvm.hb hby own_d3_40) hr
      · show Q_rm_eq Z a o u1 u2 v1 v2 h0 n0 _ T7_.heap _
        rw [e7_]
        exact ⟨by rw [if_pos hc20_5_, if_pos hc32_8_], N0, rfl⟩
    · refine own_fin (b := T7_.setTop (mkF mM 40 #[.val (.ref a), .val (.ref o), .val (.ref o)] [(.int (0 : Int32))])) (fun tT kK => ?_) ?_
      · show Steps pP.tables eE below (T7_.setTop (mkF mM 32 #[.val (.ref a), .val (.ref o), .val (.ref o)] [(.int (lcmpW v2 u2))])) tT
        refine XS.ifYes X7_.here hx rfl (pc0 := 32) (pc' := 39) rfl (Jvm.hb hby own_d3_32) rfl ((if0 _ _).trans (feq (mt (lw_eq v2 u2).mp (hc32_8_ : ¬ (v2 = u2)))).2) (by decide) (by decide) ?_
        show Steps pP.tables eE below (T7_.setTop (mkF mM 39 #[.val (.ref a), .val (.ref o), .val (.ref o)] [])) tT
        refine XS.iconst X7_.here hx rfl (Jvm.hb hby own_d3_39) ?_
        show Steps pP.tables eE below (T7_.setTop (mkF mM 40 #[.val (.ref a), .val (.ref o), .val (.ref o)] [(.int (0 : Int32))])) tT
        exact kK
      obtain ⟨fs, hr, hrun, hended, hW, hsame⟩ := X7_.leave (v := some (.int (0 : Int32))) (fun h => by rw [Bd.returns] at h; cases h)
      refine ⟨_, _, ?_, hrun, hended, _, _, rfl, ?_, ⟨_, rfl⟩, hW, hsame.mono (by decide) (by decide)⟩
      · show Steps pP.tables eE below (T7_.setTop (mkF mM 40 #[.val (.ref a), .val (.ref o), .val (.ref o)] [(.int (0 : Int32))])) _
        exact retN X7_ hx (t := .boolean) Bd.returns (by simp) (Jvm.hb hby own_d3_40) hr
      · show Q_rm_eq Z a o u1 u2 v1 v2 h0 n0 _ T7_.heap _
        rw [e7_]
        exact ⟨by rw [if_pos hc20_5_, if_neg hc32_8_], N0, rfl⟩
  · refine own_fin (b := T4_.setTop (mkF mM 40 #[.val (.ref a), .val (.ref o), .val (.ref o)] [(.int (0 : Int32))])) (fun tT kK => ?_) ?_
    · show Steps pP.tables eE below (T4_.setTop (mkF mM 20 #[.val (.ref a), .val (.ref o), .val (.ref o)] [(.int u1), (.int v1)])) tT
      refine XS.icmpYes X4_.here hx rfl (pc0 := 20) (pc' := 39) rfl (Jvm.hb hby own_d3_20) rfl (feq (hc20_5_ : ¬ (v1 = u1))).2 (by decide) (by decide) ?_
      show Steps pP.tables eE below (T4_.setTop (mkF mM 39 #[.val (.ref a), .val (.ref o), .val (.ref o)] [])) tT
      refine XS.iconst X4_.here hx rfl (Jvm.hb hby own_d3_39) ?_
      show Steps pP.tables eE below (T4_.setTop (mkF mM 40 #[.val (.ref a), .val (.ref o), .val (.ref o)] [(.int (0 : Int32))])) tT
      exact kK
    obtain ⟨fs, hr, hrun, hended, hW, hsame⟩ := X4_.leave (v := some (.int (0 : Int32))) (fun h => by rw [Bd.returns] at h; cases h)
    refine ⟨_, _, ?_, hrun, hended, _, _, rfl, ?_, ⟨_, rfl⟩, hW, hsame.mono (by decide) (by decide)⟩
    · show Steps pP.tables eE below (T4_.setTop (mkF mM 40 #[.val (.ref a), .val (.ref o), .val (.ref o)] [(.int (0 : Int32))])) _
      exact retN X4_ hx (t := .boolean) Bd.returns (by simp) (Jvm.hb hby own_d3_40) hr
    · show Q_rm_eq Z a o u1 u2 v1 v2 h0 n0 _ T4_.heap _
      rw [e4_]
      exact ⟨by rw [if_neg hc20_5_], N0, rfl⟩
theorem own_ef_rm_self (mM : MethodId) (x0 : Addr) (x1 : Addr) : entryFrame mM #[(.ref x0), (.ref x1)] 3 = mkF mM 0 #[.val (.ref x0), .val (.ref x1), .unset] [] := by first | (simp [entryFrame, mkF, argsToLocals, Value.category]; done) | rfl
def Q_rm_self (Z : State) (a : Addr) (u1 : Int32) (u2 : Int64) (h0 : Heap) (n0 : Nat) (vV : Option Value) (hH : Heap) (lA : List Loc) : Prop := vV = some (.int (1 : Int32)) ∧ Fr n0 lA ∧ (hH = h0)
set_option maxRecDepth 65536 in
set_option maxHeartbeats 40000000 in
theorem rm_self (lL : Launch) (Z : State) (a0 : Array Value) (hw : ∀ d ∈ tables_1, d.before a0 Z = true) (ws : List Jvm.Cond) (a : Addr) (u1 : Int32) (u2 : Int64) (h0 : Heap) (n0 : Nat) (Z0 : n0 ≤ h0.size) (Eo : Exa Z h0 a "com/example/epoch/epoch/Accepted") (Fa1 : Fld Z h0 a "com/example/epoch/epoch/Accepted" "appended" "I" (.int u1)) (Fa2 : Fld Z h0 a "com/example/epoch/epoch/Accepted" "lastSequence" "J" (.long u2)) :
    MetFree lL (⟨"com/example/epoch/epoch/Accepted", "equals", "(Ljava/lang/Object;)Z"⟩ : MethodName) (head1 (Jvm.Cond.code (⟨"com/example/epoch/epoch/Accepted", "equals", "(Ljava/lang/Object;)Z"⟩ : MethodName) prog_1_method_4_code 3 (some .boolean) :: ws) ({ frames := 0, cells := 0, slots := 0, locals := 0 } : Room)) (fun aA uU => aA = #[(.ref a), (.ref a)] ∧ Z.Warmed39 uU.vm ∧ uU.heap = h0) (fun _ _ _ _ _ => True) (fun _ uU oO uU' => ∃ vV lA, oO = .returned vV ∧ Q_rm_self Z a u1 u2 h0 n0 vV uU'.heap lA ∧ FrameEnd uU oO uU' lA ({ frames := 0, cells := 0, slots := 0, locals := 0 } : Room).cells ({ frames := 0, cells := 0, slots := 0, locals := 0 } : Room).slots) := by
  refine MetFree.of_bodySF (plainFor_of_name own_pn_com_example_epoch_epoch_Accepted) hisR ?_
  intro pP eE sS mM args below meth cC s₁ Bd hml0 hP hK
  obtain ⟨rfl, hZ, hh⟩ := hP
  have hx := Bd.exec
  have hby := Bd.bytes
  have hml : cC.maxLocals = 3 := hml0
  have hown : sS.vm.findClass "com/example/epoch/epoch/Accepted" = some mM.cls := findClass_of_methodNamed Bd.named
  have hnm := (name_of_methodNamed Bd.named Bd.method).1
  have X0 : Stand pP lL eE ({ frames := 0, cells := 0, slots := 0, locals := 0 } : Room) sS mM #[(.ref a), (.ref a)] below meth cC s₁ [] 0 0 := Stand.of_body Bd
  have e0 : s₁.heap = h0 := by rw [← hh, Bd.state]; rfl
  have N0 := Fr.nil n0
  have K0 := Keep.refl h0 ([] : List Addr)
  show own_Fin pP eE below (fun tT oO => ∃ vV lA, oO = .returned vV ∧ Q_rm_self Z a u1 u2 h0 n0 vV tT.heap lA ∧ FrameEnd sS oO tT lA ({ frames := 0, cells := 0, slots := 0, locals := 0 } : Room).cells ({ frames := 0, cells := 0, slots := 0, locals := 0 } : Room).slots) (s₁.setTop (entryFrame mM #[(.ref a), (.ref a)] 3))
  refine own_fin (b := s₁.setTop (mkF mM 0 #[.val (.ref a), .val (.ref a), .unset] [])) (fun tT kK => castTop (own_ef_rm_self mM a a) kK) ?_
  refine own_fin (b := s₁.setTop (mkF mM 1 #[.val (.ref a), .val (.ref a), .unset] [(.ref a)])) (fun tT kK => ?_) ?_
  · show Steps pP.tables eE below (s₁.setTop (mkF mM 0 #[.val (.ref a), .val (.ref a), .unset] [])) tT
    refine XS.aloadN X0.here hx rfl (Jvm.hb hby own_d3_0) rfl rfl ?_
    show Steps pP.tables eE below (s₁.setTop (mkF mM 1 #[.val (.ref a), .val (.ref a), .unset] [(.ref a)])) tT
    exact kK
  obtain ⟨T1_, X1_, e1_, st1_⟩ := instY X0 hx hZ hown (hw _ (List.mem_of_getElem? (i := 18) rfl)) e0 (Ins.self Eo) (g := (mkF mM 1 #[.val (.ref a), .val (.ref a), .unset] [(.ref a)])) rfl rfl (Jvm.hb hby own_d3_1)
  refine own_fin st1_ ?_
  show own_Fin pP eE below _ (T1_.setTop (mkF mM 4 #[.val (.ref a), .val (.ref a), .unset] [(.int (1 : Int32))]))
  refine own_fin (b := T1_.setTop (mkF mM 8 #[.val (.ref a), .val (.ref a), .unset] [(.ref a)])) (fun tT kK => ?_) ?_
  · show Steps pP.tables eE below (T1_.setTop (mkF mM 4 #[.val (.ref a), .val (.ref a), .unset] [(.int (1 : Int32))])) tT
    refine XS.ifNo X1_.here hx rfl (Jvm.hb hby own_d3_4) rfl ((if0 _ _).trans (feq ((by decide) : ¬ ((1 : Int32) = (0 : Int32)))).1) ?_
    show Steps pP.tables eE below (T1_.setTop (mkF mM 7 #[.val (.ref a), .val (.ref a), .unset] [])) tT
    refine XS.aloadN X1_.here hx rfl (Jvm.hb hby own_d3_7) rfl rfl ?_
    show Steps pP.tables eE below (T1_.setTop (mkF mM 8 #[.val (.ref a), .val (.ref a), .unset] [(.ref a)])) tT
    exact kK
  obtain ⟨T2_, X2_, e2_, st2_⟩ := castY X1_ hx hZ hown (hw _ (List.mem_of_getElem? (i := 18) rfl)) e1_ (Ins.self Eo) (g := (mkF mM 8 #[.val (.ref a), .val (.ref a), .unset] [(.ref a)])) rfl rfl (Jvm.hb hby own_d3_8)
  refine own_fin st2_ ?_
  show own_Fin pP eE below _ (T2_.setTop (mkF mM 11 #[.val (.ref a), .val (.ref a), .unset] [(.ref a)]))
  refine own_fin (b := T2_.setTop (mkF mM 13 #[.val (.ref a), .val (.ref a), .val (.ref a)] [(.ref a)])) (fun tT kK => ?_) ?_
  · show Steps pP.tables eE below (T2_.setTop (mkF mM 11 #[.val (.ref a), .val (.ref a), .unset] [(.ref a)])) tT
    refine XS.astoreN X2_.here hx rfl (Jvm.hb hby own_d3_11) rfl rfl (l' := #[.val (.ref a), .val (.ref a), .val (.ref a)]) rfl ?_
    show Steps pP.tables eE below (T2_.setTop (mkF mM 12 #[.val (.ref a), .val (.ref a), .val (.ref a)] [])) tT
    refine XS.aloadN X2_.here hx rfl (Jvm.hb hby own_d3_12) rfl rfl ?_
    show Steps pP.tables eE below (T2_.setTop (mkF mM 13 #[.val (.ref a), .val (.ref a), .val (.ref a)] [(.ref a)])) tT
    exact kK
  obtain ⟨T3_, X3_, e3_, st3_⟩ := getF X2_ hx hZ hown (host := "") (Or.inl (hw _ (List.mem_of_getElem? (i := 9) rfl))) Via.refl e2_ Fa1 (g := (mkF mM 13 #[.val (.ref a), .val (.ref a), .val (.ref a)] [(.ref a)])) rfl rfl (Jvm.hb hby own_d3_13)
  refine own_fin st3_ ?_
  show own_Fin pP eE below _ (T3_.setTop (mkF mM 16 #[.val (.ref a), .val (.ref a), .val (.ref a)] [(.int u1)]))
  refine own_fin (b := T3_.setTop (mkF mM 17 #[.val (.ref a), .val (.ref a), .val (.ref a)] [(.ref a), (.int u1)])) (fun tT kK => ?_) ?_
  · show Steps pP.tables eE below (T3_.setTop (mkF mM 16 #[.val (.ref a), .val (.ref a), .val (.ref a)] [(.int u1)])) tT
    refine XS.aloadN X3_.here hx rfl (Jvm.hb hby own_d3_16) rfl rfl ?_
    show Steps pP.tables eE below (T3_.setTop (mkF mM 17 #[.val (.ref a), .val (.ref a), .val (.ref a)] [(.ref a), (.int u1)])) tT
    exact kK
  obtain ⟨T4_, X4_, e4_, st4_⟩ := getF X3_ hx hZ hown (host := "") (Or.inl (hw _ (List.mem_of_getElem? (i := 9) rfl))) Via.refl e3_ Fa1 (g := (mkF mM 17 #[.val (.ref a), .val (.ref a), .val (.ref a)] [(.ref a), (.int u1)])) rfl rfl (Jvm.hb hby own_d3_17)
  refine own_fin st4_ ?_
  show own_Fin pP eE below _ (T4_.setTop (mkF mM 20 #[.val (.ref a), .val (.ref a), .val (.ref a)] [(.int u1), (.int u1)]))
  refine own_fin (b := T4_.setTop (mkF mM 24 #[.val (.ref a), .val (.ref a), .val (.ref a)] [(.ref a)])) (fun tT kK => ?_) ?_
  · show Steps pP.tables eE below (T4_.setTop (mkF mM 20 #[.val (.ref a), .val (.ref a), .val (.ref a)] [(.int u1), (.int u1)])) tT
    refine XS.icmpNo X4_.here hx rfl (Jvm.hb hby own_d3_20) rfl (teq (rfl : u1 = u1)).2 ?_
    show Steps pP.tables eE below (T4_.setTop (mkF mM 23 #[.val (.ref a), .val (.ref a), .val (.ref a)] [])) tT
    refine XS.aloadN X4_.here hx rfl (Jvm.hb hby own_d3_23) rfl rfl ?_
    show Steps pP.tables eE below (T4_.setTop (mkF mM 24 #[.val (.ref a), .val (.ref a), .val (.ref a)] [(.ref a)])) tT
    exact kK
  obtain ⟨T5_, X5_, e5_, st5_⟩ := getF X4_ hx hZ hown (host := "") (Or.inl (hw _ (List.mem_of_getElem? (i := 11) rfl))) Via.refl e4_ Fa2 (g := (mkF mM 24 #[.val (.ref a), .val (.ref a), .val (.ref a)] [(.ref a)])) rfl rfl (Jvm.hb hby own_d3_24)
  refine own_fin st5_ ?_
  show own_Fin pP eE below _ (T5_.setTop (mkF mM 27 #[.val (.ref a), .val (.ref a), .val (.ref a)] [(.long u2)]))
  refine own_fin (b := T5_.setTop (mkF mM 28 #[.val (.ref a), .val (.ref a), .val (.ref a)] [(.ref a), (.long u2)])) (fun tT kK => ?_) ?_
  · show Steps pP.tables eE below (T5_.setTop (mkF mM 27 #[.val (.ref a), .val (.ref a), .val (.ref a)] [(.long u2)])) tT
    refine XS.aloadN X5_.here hx rfl (Jvm.hb hby own_d3_27) rfl rfl ?_
    show Steps pP.tables eE below (T5_.setTop (mkF mM 28 #[.val (.ref a), .val (.ref a), .val (.ref a)] [(.ref a), (.long u2)])) tT
    exact kK
  obtain ⟨T6_, X6_, e6_, st6_⟩ := getF X5_ hx hZ hown (host := "") (Or.inl (hw _ (List.mem_of_getElem? (i := 11) rfl))) Via.refl e5_ Fa2 (g := (mkF mM 28 #[.val (.ref a), .val (.ref a), .val (.ref a)] [(.ref a), (.long u2)])) rfl rfl (Jvm.hb hby own_d3_28)
  refine own_fin st6_ ?_
  show own_Fin pP eE below _ (T6_.setTop (mkF mM 31 #[.val (.ref a), .val (.ref a), .val (.ref a)] [(.long u2), (.long u2)]))
  refine own_fin (b := T6_.setTop (mkF mM 40 #[.val (.ref a), .val (.ref a), .val (.ref a)] [(.int (1 : Int32))])) (fun tT kK => ?_) ?_
  · show Steps pP.tables eE below (T6_.setTop (mkF mM 31 #[.val (.ref a), .val (.ref a), .val (.ref a)] [(.long u2), (.long u2)])) tT
    refine XS.lcmp X6_.here hx rfl (Jvm.hb hby own_d3_31) rfl ?_
    show Steps pP.tables eE below (T6_.setTop (mkF mM 32 #[.val (.ref a), .val (.ref a), .val (.ref a)] [(.int (lcmpW u2 u2))])) tT
    refine XS.ifNo X6_.here hx rfl (Jvm.hb hby own_d3_32) rfl ((if0 _ _).trans (teq ((lw_eq u2 u2).mpr (rfl : u2 = u2))).2) ?_
    show Steps pP.tables eE below (T6_.setTop (mkF mM 35 #[.val (.ref a), .val (.ref a), .val (.ref a)] [])) tT
    refine XS.iconst X6_.here hx rfl (Jvm.hb hby own_d3_35) ?_
    show Steps pP.tables eE below (T6_.setTop (mkF mM 36 #[.val (.ref a), .val (.ref a), .val (.ref a)] [(.int (1 : Int32))])) tT
    refine XS.goto X6_.here hx rfl (pc0 := 36) (pc' := 40) rfl (Jvm.hb hby own_d3_36) (by decide) (by decide) ?_
    show Steps pP.tables eE below (T6_.setTop (mkF mM 40 #[.val (.ref a), .val (.ref a), .val (.ref a)] [(.int (1 : Int32))])) tT
    exact kK
  obtain ⟨fs, hr, hrun, hended, hW, hsame⟩ := X6_.leave (v := some (.int (1 : Int32))) (fun h => by rw [Bd.returns] at h; cases h)
  refine ⟨_, _, ?_, hrun, hended, _, _, rfl, ?_, ⟨_, rfl⟩, hW, hsame.mono (by decide) (by decide)⟩
  · show Steps pP.tables eE below (T6_.setTop (mkF mM 40 #[.val (.ref a), .val (.ref a), .val (.ref a)] [(.int (1 : Int32))])) _
    exact retN X6_ hx (t := .boolean) Bd.returns (by simp) (Jvm.hb hby own_d3_40) hr
  · show Q_rm_self Z a u1 u2 h0 n0 _ T6_.heap _
    rw [e6_]
    exact ⟨rfl, N0, rfl⟩
theorem own_ef_rm_null (mM : MethodId) (x0 : Addr) : entryFrame mM #[(.ref x0), .null] 3 = mkF mM 0 #[.val (.ref x0), .val .null, .unset] [] := by first | (simp [entryFrame, mkF, argsToLocals, Value.category]; done) | rfl
def Q_rm_null (Z : State) (a : Addr) (h0 : Heap) (n0 : Nat) (vV : Option Value) (hH : Heap) (lA : List Loc) : Prop := vV = some (.int (0 : Int32)) ∧ Fr n0 lA ∧ (hH = h0)
set_option maxRecDepth 65536 in
set_option maxHeartbeats 40000000 in
theorem rm_null (lL : Launch) (Z : State) (a0 : Array Value) (hw : ∀ d ∈ tables_1, d.before a0 Z = true) (ws : List Jvm.Cond) (a : Addr) (h0 : Heap) (n0 : Nat) (Z0 : n0 ≤ h0.size) :
    MetFree lL (⟨"com/example/epoch/epoch/Accepted", "equals", "(Ljava/lang/Object;)Z"⟩ : MethodName) (head1 (Jvm.Cond.code (⟨"com/example/epoch/epoch/Accepted", "equals", "(Ljava/lang/Object;)Z"⟩ : MethodName) prog_1_method_4_code 3 (some .boolean) :: ws) ({ frames := 0, cells := 0, slots := 0, locals := 0 } : Room)) (fun aA uU => aA = #[(.ref a), .null] ∧ Z.Warmed39 uU.vm ∧ uU.heap = h0) (fun _ _ _ _ _ => True) (fun _ uU oO uU' => ∃ vV lA, oO = .returned vV ∧ Q_rm_null Z a h0 n0 vV uU'.heap lA ∧ FrameEnd uU oO uU' lA ({ frames := 0, cells := 0, slots := 0, locals := 0 } : Room).cells ({ frames := 0, cells := 0, slots := 0, locals := 0 } : Room).slots) := by
  refine MetFree.of_bodySF (plainFor_of_name own_pn_com_example_epoch_epoch_Accepted) hisR ?_
  intro pP eE sS mM args below meth cC s₁ Bd hml0 hP hK
  obtain ⟨rfl, hZ, hh⟩ := hP
  have hx := Bd.exec
  have hby := Bd.bytes
  have hml : cC.maxLocals = 3 := hml0
  have hown : sS.vm.findClass "com/example/epoch/epoch/Accepted" = some mM.cls := findClass_of_methodNamed Bd.named
  have hnm := (name_of_methodNamed Bd.named Bd.method).1
  have X0 : Stand pP lL eE ({ frames := 0, cells := 0, slots := 0, locals := 0 } : Room) sS mM #[(.ref a), .null] below meth cC s₁ [] 0 0 := Stand.of_body Bd
  have e0 : s₁.heap = h0 := by rw [← hh, Bd.state]; rfl
  have N0 := Fr.nil n0
  have K0 := Keep.refl h0 ([] : List Addr)
  show own_Fin pP eE below (fun tT oO => ∃ vV lA, oO = .returned vV ∧ Q_rm_null Z a h0 n0 vV tT.heap lA ∧ FrameEnd sS oO tT lA ({ frames := 0, cells := 0, slots := 0, locals := 0 } : Room).cells ({ frames := 0, cells := 0, slots := 0, locals := 0 } : Room).slots) (s₁.setTop (entryFrame mM #[(.ref a), .null] 3))
  refine own_fin (b := s₁.setTop (mkF mM 0 #[.val (.ref a), .val .null, .unset] [])) (fun tT kK => castTop (own_ef_rm_null mM a) kK) ?_
  refine own_fin (b := s₁.setTop (mkF mM 1 #[.val (.ref a), .val .null, .unset] [.null])) (fun tT kK => ?_) ?_
  · show Steps pP.tables eE below (s₁.setTop (mkF mM 0 #[.val (.ref a), .val .null, .unset] [])) tT
    refine XS.aloadN X0.here hx rfl (Jvm.hb hby own_d3_0) rfl rfl ?_
    show Steps pP.tables eE below (s₁.setTop (mkF mM 1 #[.val (.ref a), .val .null, .unset] [.null])) tT
    exact kK
  refine own_fin (b := s₁.setTop (mkF mM 40 #[.val (.ref a), .val .null, .unset] [(.int (0 : Int32))])) (fun tT kK => ?_) ?_
  · show Steps pP.tables eE below (s₁.setTop (mkF mM 1 #[.val (.ref a), .val .null, .unset] [.null])) tT
    refine X0.instanceofNull hx (g := (mkF mM 1 #[.val (.ref a), .val .null, .unset] [.null])) rfl rfl (Jvm.hb hby own_d3_1) _ ?_
    show Steps pP.tables eE below (s₁.setTop (mkF mM 4 #[.val (.ref a), .val .null, .unset] [(.int (0 : Int32))])) tT
    refine XS.ifYes X0.here hx rfl (pc0 := 4) (pc' := 39) rfl (Jvm.hb hby own_d3_4) rfl ((if0 _ _).trans (teq ((by decide) : (0 : Int32) = (0 : Int32))).1) (by decide) (by decide) ?_
    show Steps pP.tables eE below (s₁.setTop (mkF mM 39 #[.val (.ref a), .val .null, .unset] [])) tT
    refine XS.iconst X0.here hx rfl (Jvm.hb hby own_d3_39) ?_
    show Steps pP.tables eE below (s₁.setTop (mkF mM 40 #[.val (.ref a), .val .null, .unset] [(.int (0 : Int32))])) tT
    exact kK
  obtain ⟨fs, hr, hrun, hended, hW, hsame⟩ := X0.leave (v := some (.int (0 : Int32))) (fun h => by rw [Bd.returns] at h; cases h)
  refine ⟨_, _, ?_, hrun, hended, _, _, rfl, ?_, ⟨_, rfl⟩, hW, hsame.mono (by decide) (by decide)⟩
  · show Steps pP.tables eE below (s₁.setTop (mkF mM 40 #[.val (.ref a), .val .null, .unset] [(.int (0 : Int32))])) _
    exact retN X0 hx (t := .boolean) Bd.returns (by simp) (Jvm.hb hby own_d3_40) hr
  · show Q_rm_null Z a h0 n0 _ s₁.heap _
    rw [e0]
    exact ⟨rfl, N0, rfl⟩
theorem own_d7_0 : decode jdk_18_method_1_code 0 = .ok (.aload_n 0, 1) := by decide +kernel
theorem own_d7_1 : decode jdk_18_method_1_code 1 = .ok (.invokespecial 1, 3) := by decide +kernel
theorem own_d7_4 : decode jdk_18_method_1_code 4 = .ok (.return_, 1) := by decide +kernel
theorem own_pn_java_lang_Number : plainName "java/lang/Number" = true := by first | (simp [plainName, overriddenIn]; done) | decide +kernel
theorem own_ef_rm_num (mM : MethodId) (x0 : Addr) : entryFrame mM #[(.ref x0)] 1 = mkF mM 0 #[.val (.ref x0)] [] := by first | (simp [entryFrame, mkF, argsToLocals, Value.category]; done) | rfl
def Q_rm_num (Z : State) (a : Addr) (h0 : Heap) (n0 : Nat) (vV : Option Value) (hH : Heap) (lA : List Loc) : Prop := vV = none ∧ Fr n0 lA ∧ (hH = h0)
set_option maxRecDepth 65536 in
set_option maxHeartbeats 40000000 in
theorem rm_num (lL : Launch) (Z : State) (a0 : Array Value) (hw : ∀ d ∈ tables_1, d.before a0 Z = true) (ws : List Jvm.Cond) (a : Addr) (h0 : Heap) (n0 : Nat) (Z0 : n0 ≤ h0.size) :
    MetFree lL (⟨"java/lang/Number", "<init>", "()V"⟩ : MethodName) (head1 (Jvm.Cond.code (⟨"java/lang/Number", "<init>", "()V"⟩ : MethodName) jdk_18_method_1_code 1 none :: ws) ({ frames := 1, cells := 0, slots := 0, locals := 12 } : Room)) (fun aA uU => aA = #[(.ref a)] ∧ Z.Warmed39 uU.vm ∧ uU.heap = h0) (fun _ _ _ _ _ => True) (fun _ uU oO uU' => ∃ vV lA, oO = .returned vV ∧ Q_rm_num Z a h0 n0 vV uU'.heap lA ∧ FrameEnd uU oO uU' lA ({ frames := 1, cells := 0, slots := 0, locals := 12 } : Room).cells ({ frames := 1, cells := 0, slots := 0, locals := 12 } : Room).slots) := by
  refine MetFree.of_bodySF (plainFor_of_name own_pn_java_lang_Number) hisR ?_
  intro pP eE sS mM args below meth cC s₁ Bd hml0 hP hK
  obtain ⟨rfl, hZ, hh⟩ := hP
  have hx := Bd.exec
  have hby := Bd.bytes
  have hml : cC.maxLocals = 1 := hml0
  have hown : sS.vm.findClass "java/lang/Number" = some mM.cls := findClass_of_methodNamed Bd.named
  have hnm := (name_of_methodNamed Bd.named Bd.method).1
  have X0 : Stand pP lL eE ({ frames := 1, cells := 0, slots := 0, locals := 12 } : Room) sS mM #[(.ref a)] below meth cC s₁ [] 0 0 := Stand.of_body Bd
  have e0 : s₁.heap = h0 := by rw [← hh, Bd.state]; rfl
  have N0 := Fr.nil n0
  have K0 := Keep.refl h0 ([] : List Addr)
  show own_Fin pP eE below (fun tT oO => ∃ vV lA, oO = .returned vV ∧ Q_rm_num Z a h0 n0 vV tT.heap lA ∧ FrameEnd sS oO tT lA ({ frames := 1, cells := 0, slots := 0, locals := 12 } : Room).cells ({ frames := 1, cells := 0, slots := 0, locals := 12 } : Room).slots) (s₁.setTop (entryFrame mM #[(.ref a)] 1))
  refine own_fin (b := s₁.setTop (mkF mM 0 #[.val (.ref a)] [])) (fun tT kK => castTop (own_ef_rm_num mM a) kK) ?_
  refine own_fin (b := s₁.setTop (mkF mM 1 #[.val (.ref a)] [(.ref a)])) (fun tT kK => ?_) ?_
  · show Steps pP.tables eE below (s₁.setTop (mkF mM 0 #[.val (.ref a)] [])) tT
    refine XS.aloadN X0.here hx rfl (Jvm.hb hby own_d7_0) rfl rfl ?_
    show Steps pP.tables eE below (s₁.setTop (mkF mM 1 #[.val (.ref a)] [(.ref a)])) tT
    exact kK
  obtain ⟨T1_, X1_, e1_, st1_⟩ := initO X0 hx hZ hown (hw _ (List.mem_of_getElem? (i := 55) rfl)) (hw _ (List.mem_of_getElem? (i := 7) rfl)) (hw _ (List.mem_of_getElem? (i := 8) rfl)) e0 (g := (mkF mM 1 #[.val (.ref a)] [(.ref a)])) rfl (by rw [hml]; rfl) rfl (Jvm.hb hby own_d7_1) (by decide) (W := 0) (by show 2 * 0 + _ ≤ _; exact Nat.le_of_eq rfl) (by decide)
  refine own_fin st1_ ?_
  show own_Fin pP eE below _ (T1_.setTop (mkF mM 4 #[.val (.ref a)] []))
  obtain ⟨fs, hr, hrun, hended, hW, hsame⟩ := X1_.leave (v := none) (fun _ => rfl)
  refine ⟨_, _, ?_, hrun, hended, _, _, rfl, ?_, ⟨_, rfl⟩, hW, hsame.mono (by decide) (by decide)⟩
  · show Steps pP.tables eE below (T1_.setTop (mkF mM 4 #[.val (.ref a)] [])) _
    exact X1_.returnOut hx Bd.returns (Jvm.hb hby own_d7_4) hr
  · show Q_rm_num Z a h0 n0 _ T1_.heap _
    rw [e1_]
    exact ⟨rfl, N0, rfl⟩
theorem own_d6_0 : decode jdk_35_method_26_code 0 = .ok (.aload_n 0, 1) := by decide +kernel
theorem own_d6_1 : decode jdk_35_method_26_code 1 = .ok (.invokespecial 270, 3) := by decide +kernel
theorem own_pd0 : parseMethodDescriptor "()V" = some ⟨[], none⟩ := by decide +kernel
theorem own_d6_4 : decode jdk_35_method_26_code 4 = .ok (.aload_n 0, 1) := by decide +kernel
theorem own_d6_5 : decode jdk_35_method_26_code 5 = .ok (.lload_n 1, 1) := by decide +kernel
theorem own_d6_6 : decode jdk_35_method_26_code 6 = .ok (.putfield 273, 3) := by decide +kernel
theorem own_d6_9 : decode jdk_35_method_26_code 9 = .ok (.return_, 1) := by decide +kernel
theorem own_pn_java_lang_Long : plainName "java/lang/Long" = true := by first | (simp [plainName, overriddenIn]; done) | decide +kernel
theorem own_ef_rm_linit (mM : MethodId) (x0 : Addr) (x1 : Int64) : entryFrame mM #[(.ref x0), (.long x1)] 3 = mkF mM 0 #[.val (.ref x0), .val (.long x1), .second] [] := by first | (simp [entryFrame, mkF, argsToLocals, Value.category]; done) | rfl
def Q_rm_linit (Z : State) (a : Addr) (q : Int64) (h0 : Heap) (n0 : Nat) (vV : Option Value) (hH : Heap) (lA : List Loc) : Prop := vV = none ∧ Fr n0 lA ∧ (Keep h0 hH [a]) ∧ (Exa Z hH a "java/lang/Long")
set_option maxRecDepth 65536 in
set_option maxHeartbeats 40000000 in
theorem rm_linit (lL : Launch) (Z : State) (a0 : Array Value) (hw : ∀ d ∈ tables_1, d.before a0 Z = true) (ws : List Jvm.Cond) (a : Addr) (q : Int64) (h0 : Heap) (n0 : Nat) (Z0 : n0 ≤ h0.size) (Ea : Exa Z h0 a "java/lang/Long") (Fa : Fld Z h0 a "java/lang/Long" "value" "J" (.long (0 : Int64))) (ga : n0 ≤ a) :
    MetFree lL (⟨"java/lang/Long", "<init>", "(J)V"⟩ : MethodName) (head1 (Jvm.Cond.code (⟨"java/lang/Long", "<init>", "(J)V"⟩ : MethodName) jdk_35_method_26_code 3 none :: ws) ({ frames := 2, cells := 0, slots := 0, locals := 24 } : Room)) (fun aA uU => aA = #[(.ref a), (.long q)] ∧ Z.Warmed39 uU.vm ∧ uU.heap = h0) (fun _ _ _ _ _ => True) (fun _ uU oO uU' => ∃ vV lA, oO = .returned vV ∧ Q_rm_linit Z a q h0 n0 vV uU'.heap lA ∧ FrameEnd uU oO uU' lA ({ frames := 2, cells := 0, slots := 0, locals := 24 } : Room).cells ({ frames := 2, cells := 0, slots := 0, locals := 24 } : Room).slots) := by
  refine MetFree.of_bodySF (plainFor_of_name own_pn_java_lang_Long) hisR ?_
  intro pP eE sS mM args below meth cC s₁ Bd hml0 hP hK
  obtain ⟨rfl, hZ, hh⟩ := hP
  have hx := Bd.exec
  have hby := Bd.bytes
  have hml : cC.maxLocals = 3 := hml0
  have hown : sS.vm.findClass "java/lang/Long" = some mM.cls := findClass_of_methodNamed Bd.named
  have hnm := (name_of_methodNamed Bd.named Bd.method).1
  have X0 : Stand pP lL eE ({ frames := 2, cells := 0, slots := 0, locals := 24 } : Room) sS mM #[(.ref a), (.long q)] below meth cC s₁ [] 0 0 := Stand.of_body Bd
  have e0 : s₁.heap = h0 := by rw [← hh, Bd.state]; rfl
  have N0 := Fr.nil n0
  have K0 := Keep.refl h0 [a]
  show own_Fin pP eE below (fun tT oO => ∃ vV lA, oO = .returned vV ∧ Q_rm_linit Z a q h0 n0 vV tT.heap lA ∧ FrameEnd sS oO tT lA ({ frames := 2, cells := 0, slots := 0, locals := 24 } : Room).cells ({ frames := 2, cells := 0, slots := 0, locals := 24 } : Room).slots) (s₁.setTop (entryFrame mM #[(.ref a), (.long q)] 3))
  refine own_fin (b := s₁.setTop (mkF mM 0 #[.val (.ref a), .val (.long q), .second] [])) (fun tT kK => castTop (own_ef_rm_linit mM a q) kK) ?_
  refine own_fin (b := s₁.setTop (mkF mM 1 #[.val (.ref a), .val (.long q), .second] [(.ref a)])) (fun tT kK => ?_) ?_
  · show Steps pP.tables eE below (s₁.setTop (mkF mM 0 #[.val (.ref a), .val (.long q), .second] [])) tT
    refine XS.aloadN X0.here hx rfl (Jvm.hb hby own_d6_0) rfl rfl ?_
    show Steps pP.tables eE below (s₁.setTop (mkF mM 1 #[.val (.ref a), .val (.long q), .second] [(.ref a)])) tT
    exact kK
  obtain ⟨_, _, ⟨T1_, L1_, k1_, n1_⟩, -, X1_, ⟨Lc1_, hQ1_, l1_, y1_, z1_⟩, st1_⟩ := X0.specialBack hx (y := (⟨"java/lang/Number", "<init>", "()V"⟩ : MethodName)) rfl hown (mvT hZ (hw _ (List.mem_of_getElem? (i := 49) rfl))) (mvT hZ (hw _ (List.mem_of_getElem? (i := 50) rfl))) (mvT hZ (hw _ (List.mem_of_getElem? (i := 54) rfl))) (by decide) (backOf (W := 0) (rm_num lL Z a0 hw [] a h0 n0 (Nat.le_trans Z0 K0.1) ) hZ (hw _ (List.mem_of_getElem? (i := 54) rfl)) (hw _ (List.mem_of_getElem? (i := 53) rfl)) (by decide) (by decide)) (g := (mkF mM 1 #[.val (.ref a), .val (.long q), .second] [(.ref a)])) rfl (by rw [hml]; rfl) (Steps.refl _) (a := a) (argsL := []) (rest := []) (lenOf own_pd0 rfl) rfl (by show 2 * 0 + _ ≤ _; exact Nat.le_of_eq rfl) (Jvm.hb hby own_d6_1) (fun _ _ => ⟨rfl, e0, (by decide : 0 + 0 ≤ _), (by decide : 0 + 0 ≤ _)⟩)
  dsimp only [Pt.U, Pt.locs, Pt.cells, Pt.slots] at X1_ l1_ y1_ z1_ st1_ hQ1_
  subst l1_ y1_ z1_
  obtain ⟨rfl, N1_q, p1__0⟩ := hQ1_
  have N1_ := Fr.app N0 N1_q
  refine own_fin (fun tT kK => st1_.trans kK) ?_
  show own_Fin pP eE below _ (T1_.setTop (mkF mM 4 #[.val (.ref a), .val (.long q), .second] []))
  refine own_fin (b := T1_.setTop (mkF mM 6 #[.val (.ref a), .val (.long q), .second] [(.long q), (.ref a)])) (fun tT kK => ?_) ?_
  · show Steps pP.tables eE below (T1_.setTop (mkF mM 4 #[.val (.ref a), .val (.long q), .second] [])) tT
    refine XS.aloadN X1_.here hx rfl (Jvm.hb hby own_d6_4) rfl rfl ?_
    show Steps pP.tables eE below (T1_.setTop (mkF mM 5 #[.val (.ref a), .val (.long q), .second] [(.ref a)])) tT
    refine XS.lloadN X1_.here hx rfl (Jvm.hb hby own_d6_5) rfl ?_
    show Steps pP.tables eE below (T1_.setTop (mkF mM 6 #[.val (.ref a), .val (.long q), .second] [(.long q), (.ref a)])) tT
    exact kK
  obtain ⟨T2_, h2_, X2_, e2_, W2_, st2_⟩ := putF X1_ hx hZ hown (host := "") (Or.inl (hw _ (List.mem_of_getElem? (i := 56) rfl))) Via.refl p1__0 Fa Ea (Or.inr ⟨(hw _ (List.mem_of_getElem? (i := 57) rfl)), rfl, hnm⟩) (hw _ (List.mem_of_getElem? (i := 44) rfl)) (ty := .long) (by decide) rfl rfl (g := (mkF mM 6 #[.val (.ref a), .val (.long q), .second] [(.long q), (.ref a)])) rfl rfl (Jvm.hb hby own_d6_6)
  have Fw2_ := Fa.same W2_
  have fc3_ := Ea.wr W2_
  have K2_ := K0.wr W2_ (Or.inl (List.mem_of_getElem? (i := 0) rfl))
  have N2_ := Fr.snoc X2_ N1_ ga
  refine own_fin st2_ ?_
  show own_Fin pP eE below _ (T2_.setTop (mkF mM 9 #[.val (.ref a), .val (.long q), .second] []))
  obtain ⟨fs, hr, hrun, hended, hW, hsame⟩ := X2_.leave (v := none) (fun _ => rfl)
  refine ⟨_, _, ?_, hrun, hended, _, _, rfl, ?_, ⟨_, rfl⟩, hW, hsame.mono (by decide) (by decide)⟩
  · show Steps pP.tables eE below (T2_.setTop (mkF mM 9 #[.val (.ref a), .val (.long q), .second] [])) _
    exact X2_.returnOut hx Bd.returns (Jvm.hb hby own_d6_9) hr
  · show Q_rm_linit Z a q h0 n0 _ T2_.heap _
    rw [e2_]
    exact ⟨rfl, N2_, K2_, fc3_⟩
theorem own_d5_0 : decode jdk_35_method_24_code 0 = .ok (.sipush 128, 3) := by decide +kernel
theorem own_d5_3 : decode jdk_35_method_24_code 3 = .ok (.istore_n 2, 1) := by decide +kernel
theorem own_d5_4 : decode jdk_35_method_24_code 4 = .ok (.lload_n 0, 1) := by decide +kernel
theorem own_d5_5 : decode jdk_35_method_24_code 5 = .ok (.ldc2_w 230, 3) := by decide +kernel
theorem own_d5_8 : decode jdk_35_method_24_code 8 = .ok (.lcmp, 1) := by decide +kernel
theorem own_d5_9 : decode jdk_35_method_24_code 9 = .ok (.ifCond .lt 22, 3) := by decide +kernel
theorem own_d5_31 : decode jdk_35_method_24_code 31 = .ok (.new 1, 3) := by decide +kernel
theorem own_d5_34 : decode jdk_35_method_24_code 34 = .ok (.dup, 1) := by decide +kernel
theorem own_d5_35 : decode jdk_35_method_24_code 35 = .ok (.lload_n 0, 1) := by decide +kernel
theorem own_d5_36 : decode jdk_35_method_24_code 36 = .ok (.invokespecial 240, 3) := by decide +kernel
theorem own_pd1 : parseMethodDescriptor "(J)V" = some ⟨[.long], none⟩ := by decide +kernel
theorem own_d5_39 : decode jdk_35_method_24_code 39 = .ok (.areturn, 1) := by decide +kernel
theorem own_d5_12 : decode jdk_35_method_24_code 12 = .ok (.lload_n 0, 1) := by decide +kernel
theorem own_d5_13 : decode jdk_35_method_24_code 13 = .ok (.ldc2_w 232, 3) := by decide +kernel
theorem own_d5_16 : decode jdk_35_method_24_code 16 = .ok (.lcmp, 1) := by decide +kernel
theorem own_d5_17 : decode jdk_35_method_24_code 17 = .ok (.ifCond .gt 14, 3) := by decide +kernel
theorem own_d5_20 : decode jdk_35_method_24_code 20 = .ok (.getstatic 234, 3) := by decide +kernel
theorem own_d5_23 : decode jdk_35_method_24_code 23 = .ok (.lload_n 0, 1) := by decide +kernel
theorem own_d5_24 : decode jdk_35_method_24_code 24 = .ok (.l2i, 1) := by decide +kernel
theorem own_d5_25 : decode jdk_35_method_24_code 25 = .ok (.sipush 128, 3) := by decide +kernel
theorem own_d5_28 : decode jdk_35_method_24_code 28 = .ok (.iadd, 1) := by decide +kernel
theorem own_d5_29 : decode jdk_35_method_24_code 29 = .ok (.aaload, 1) := by decide +kernel
theorem own_d5_30 : decode jdk_35_method_24_code 30 = .ok (.areturn, 1) := by decide +kernel
theorem own_ef_rm_lval (mM : MethodId) (x0 : Int64) : entryFrame mM #[(.long x0)] 3 = mkF mM 0 #[.val (.long x0), .second, .unset] [] := by first | (simp [entryFrame, mkF, argsToLocals, Value.category]; done) | rfl
def Q_rm_lval (Z : State) (q : Int64) (ca : Addr) (cc : Cell) (h0 : Heap) (n0 : Nat) (vV : Option Value) (hH : Heap) (lA : List Loc) : Prop := ∃ b : Addr, vV = some (.ref b) ∧ Fr n0 lA ∧ (Keep h0 hH []) ∧ (Exa Z hH b "java/lang/Long")
set_option maxRecDepth 65536 in
set_option maxHeartbeats 40000000 in
theorem rm_lval (lL : Launch) (Z : State) (a0 : Array Value) (hw : ∀ d ∈ tables_1, d.before a0 Z = true) (ws : List Jvm.Cond) (q : Int64) (ca : Addr) (cc : Cell) (h0 : Heap) (n0 : Nat) (Z0 : n0 ≤ h0.size) (Oa : Old Z n0 h0) (Ca : own_Cache Z ca cc) (Sa : Sta Z Z.heap "java/lang/Long$LongCache" "cache" "[Ljava/lang/Long;" (.ref ca)) :
    MetFree lL (⟨"java/lang/Long", "valueOf", "(J)Ljava/lang/Long;"⟩ : MethodName) (head1 (Jvm.Cond.code (⟨"java/lang/Long", "valueOf", "(J)Ljava/lang/Long;"⟩ : MethodName) jdk_35_method_24_code 3 (some (.object "java/lang/Long")) :: ws) ({ frames := 3, cells := 1, slots := 1, locals := 39 } : Room)) (fun aA uU => aA = #[(.long q)] ∧ Z.Warmed39 uU.vm ∧ uU.heap = h0) (fun _ _ _ _ _ => True) (fun _ uU oO uU' => ∃ vV lA, oO = .returned vV ∧ Q_rm_lval Z q ca cc h0 n0 vV uU'.heap lA ∧ FrameEnd uU oO uU' lA ({ frames := 3, cells := 1, slots := 1, locals := 39 } : Room).cells ({ frames := 3, cells := 1, slots := 1, locals := 39 } : Room).slots) := by
  refine MetFree.of_bodySF (plainFor_of_name own_pn_java_lang_Long) hisR ?_
  intro pP eE sS mM args below meth cC s₁ Bd hml0 hP hK
  obtain ⟨rfl, hZ, hh⟩ := hP
  have hx := Bd.exec
  have hby := Bd.bytes
  have hml : cC.maxLocals = 3 := hml0
  have hown : sS.vm.findClass "java/lang/Long" = some mM.cls := findClass_of_methodNamed Bd.named
  have hnm := (name_of_methodNamed Bd.named Bd.method).1
  have X0 : Stand pP lL eE ({ frames := 3, cells := 1, slots := 1, locals := 39 } : Room) sS mM #[(.long q)] below meth cC s₁ [] 0 0 := Stand.of_body Bd
  have e0 : s₁.heap = h0 := by rw [← hh, Bd.state]; rfl
  have N0 := Fr.nil n0
  have K0 := Keep.refl h0 ([] : List Addr)
  show own_Fin pP eE below (fun tT oO => ∃ vV lA, oO = .returned vV ∧ Q_rm_lval Z q ca cc h0 n0 vV tT.heap lA ∧ FrameEnd sS oO tT lA ({ frames := 3, cells := 1, slots := 1, locals := 39 } : Room).cells ({ frames := 3, cells := 1, slots := 1, locals := 39 } : Room).slots) (s₁.setTop (entryFrame mM #[(.long q)] 3))
  refine own_fin (b := s₁.setTop (mkF mM 0 #[.val (.long q), .second, .unset] [])) (fun tT kK => castTop (own_ef_rm_lval mM q) kK) ?_
  have Sx := own_StaKeep Oa Sa
  refine own_fin (b := s₁.setTop (mkF mM 9 #[.val (.long q), .second, .val (.int (128 : Int32))] [(.int (lcmpW q (-128 : Int64)))])) (fun tT kK => ?_) ?_
  · show Steps pP.tables eE below (s₁.setTop (mkF mM 0 #[.val (.long q), .second, .unset] [])) tT
    refine XS.sipush X0.here hx rfl (Jvm.hb hby own_d5_0) ?_
    show Steps pP.tables eE below (s₁.setTop (mkF mM 3 #[.val (.long q), .second, .unset] [(.int (128 : Int32))])) tT
    refine XS.istoreN X0.here hx rfl (Jvm.hb hby own_d5_3) rfl (l' := #[.val (.long q), .second, .val (.int (128 : Int32))]) rfl ?_
    show Steps pP.tables eE below (s₁.setTop (mkF mM 4 #[.val (.long q), .second, .val (.int (128 : Int32))] [])) tT
    refine XS.lloadN X0.here hx rfl (Jvm.hb hby own_d5_4) rfl ?_
    show Steps pP.tables eE below (s₁.setTop (mkF mM 5 #[.val (.long q), .second, .val (.int (128 : Int32))] [(.long q)])) tT
    refine X0.ldc2Long hx hown (mvT hZ (hw _ (List.mem_of_getElem? (i := 37) rfl))) (g := (mkF mM 5 #[.val (.long q), .second, .val (.int (128 : Int32))] [(.long q)])) rfl (Jvm.hb hby own_d5_5) _ ?_
    show Steps pP.tables eE below (s₁.setTop (mkF mM 8 #[.val (.long q), .second, .val (.int (128 : Int32))] [(.long (-128 : Int64)), (.long q)])) tT
    refine XS.lcmp X0.here hx rfl (Jvm.hb hby own_d5_8) rfl ?_
    show Steps pP.tables eE below (s₁.setTop (mkF mM 9 #[.val (.long q), .second, .val (.int (128 : Int32))] [(.int (lcmpW q (-128 : Int64)))])) tT
    exact kK
  by_cases hc9_1_ : q < (-128 : Int64)
  · refine own_fin (b := s₁.setTop (mkF mM 31 #[.val (.long q), .second, .val (.int (128 : Int32))] [])) (fun tT kK => ?_) ?_
    · show Steps pP.tables eE below (s₁.setTop (mkF mM 9 #[.val (.long q), .second, .val (.int (128 : Int32))] [(.int (lcmpW q (-128 : Int64)))])) tT
      refine XS.ifYes X0.here hx rfl (pc0 := 9) (pc' := 31) rfl (Jvm.hb hby own_d5_9) rfl ((if0 _ _).trans (tlt ((lw_lt q (-128 : Int64)).mpr (hc9_1_ : q < (-128 : Int64)))).1) (by decide) (by decide) ?_
      show Steps pP.tables eE below (s₁.setTop (mkF mM 31 #[.val (.long q), .second, .val (.int (128 : Int32))] [])) tT
      exact kK
    obtain ⟨T2_, h2_, X2_, e2_, E2_, A2_, D2_, -, st2_⟩ := newO X0 hx hZ hown (hw _ (List.mem_of_getElem? (i := 43) rfl)) (hw _ (List.mem_of_getElem? (i := 44) rfl)) (hw _ (List.mem_of_getElem? (i := 35) rfl)) e0 (g := (mkF mM 31 #[.val (.long q), .second, .val (.int (128 : Int32))] [])) rfl (Jvm.hb hby own_d5_31) (by decide) (by decide)
    obtain ⟨b2_, g2_⟩ : ∃ z, z = h0.size := ⟨_, rfl⟩
    rw [← g2_] at A2_ D2_ st2_
    have sz_b2_ : h0.size ≤ b2_ := Nat.le_trans K0.1 (Nat.le_of_eq g2_.symm)
    have ge_b2_ : n0 ≤ b2_ := Nat.le_trans Z0 sz_b2_
    have fc3_ := Oa.ext E2_
    have fc4_ := Sx.ext E2_
    have K2_ := K0.ext E2_
    have F2__value : Fld Z h2_ b2_ "java/lang/Long" "value" "J" (.long (0 : Int64)) := D2_ (Or.inr (hw _ (List.mem_of_getElem? (i := 57) rfl))) (ty := .long) (by decide)
    refine own_fin st2_ ?_
    show own_Fin pP eE below _ (T2_.setTop (mkF mM 34 #[.val (.long q), .second, .val (.int (128 : Int32))] [(.ref b2_)]))
    refine own_fin (b := T2_.setTop (mkF mM 36 #[.val (.long q), .second, .val (.int (128 : Int32))] [(.long q), (.ref b2_), (.ref b2_)])) (fun tT kK => ?_) ?_
    · show Steps pP.tables eE below (T2_.setTop (mkF mM 34 #[.val (.long q), .second, .val (.int (128 : Int32))] [(.ref b2_)])) tT
      refine XS.dup X2_.here hx rfl (Jvm.hb hby own_d5_34) rfl rfl ?_
      show Steps pP.tables eE below (T2_.setTop (mkF mM 35 #[.val (.long q), .second, .val (.int (128 : Int32))] [(.ref b2_), (.ref b2_)])) tT
      refine XS.lloadN X2_.here hx rfl (Jvm.hb hby own_d5_35) rfl ?_
      show Steps pP.tables eE below (T2_.setTop (mkF mM 36 #[.val (.long q), .second, .val (.int (128 : Int32))] [(.long q), (.ref b2_), (.ref b2_)])) tT
      exact kK
    obtain ⟨_, _, ⟨T5_, L5_, k5_, n5_⟩, -, X5_, ⟨Lc5_, hQ5_, l5_, y5_, z5_⟩, st5_⟩ := X2_.specialBack hx (y := (⟨"java/lang/Long", "<init>", "(J)V"⟩ : MethodName)) rfl hown (mvT hZ (hw _ (List.mem_of_getElem? (i := 45) rfl))) (mvT hZ (hw _ (List.mem_of_getElem? (i := 46) rfl))) (mvT hZ (hw _ (List.mem_of_getElem? (i := 48) rfl))) (by decide) (backOf (W := 1) (rm_linit lL Z a0 hw [] b2_ q h2_ n0 (Nat.le_trans Z0 K2_.1) A2_ F2__value ge_b2_) hZ (hw _ (List.mem_of_getElem? (i := 48) rfl)) (hw _ (List.mem_of_getElem? (i := 35) rfl)) (by decide) (by decide)) (g := (mkF mM 36 #[.val (.long q), .second, .val (.int (128 : Int32))] [(.long q), (.ref b2_), (.ref b2_)])) rfl (by rw [hml]; rfl) (Steps.refl _) (a := b2_) (argsL := [(.long q)]) (rest := [(.ref b2_)]) (lenOf own_pd1 rfl) rfl (by show 2 * 0 + _ ≤ _; exact Nat.le_of_eq rfl) (Jvm.hb hby own_d5_36) (fun _ _ => ⟨rfl, e2_, (by decide : 1 + 0 ≤ _), (by decide : 1 + 0 ≤ _)⟩)
    dsimp only [Pt.U, Pt.locs, Pt.cells, Pt.slots] at X5_ l5_ y5_ z5_ st5_ hQ5_
    subst l5_ y5_ z5_
    obtain ⟨rfl, N5_q, p5__0, p5__1⟩ := hQ5_
    have N5_ := Fr.app N0 N5_q
    have fc6_ := fc3_.keep p5__0 (allS ge_b2_ all0)
    have fc7_ := A2_.keep p5__0
    have K5_ := K2_.trans p5__0 (allS (Or.inr sz_b2_) all0)
    refine own_fin (fun tT kK => st5_.trans kK) ?_
    show own_Fin pP eE below _ (T5_.setTop (mkF mM 39 #[.val (.long q), .second, .val (.int (128 : Int32))] [(.ref b2_)]))
    obtain ⟨fs, hr, hrun, hended, hW, hsame⟩ := X5_.leave (v := some (.ref b2_)) (fun h => by rw [Bd.returns] at h; cases h)
    refine ⟨_, _, ?_, hrun, hended, _, _, rfl, ?_, ⟨_, rfl⟩, hW, hsame.mono (by decide) (by decide)⟩
    · show Steps pP.tables eE below (T5_.setTop (mkF mM 39 #[.val (.long q), .second, .val (.int (128 : Int32))] [(.ref b2_)])) _
      exact retOut X5_ hx Bd.returns rfl (Or.inr (Or.inr (Or.inr (Or.inr ⟨rfl, rfl, rfl⟩)))) (Jvm.hb hby own_d5_39) hr
    · show Q_rm_lval Z q ca cc h0 n0 _ T5_.heap _
      exact ⟨b2_, rfl, N5_, K5_, p5__1⟩
  · refine own_fin (b := s₁.setTop (mkF mM 17 #[.val (.long q), .second, .val (.int (128 : Int32))] [(.int (lcmpW q (127 : Int64)))])) (fun tT kK => ?_) ?_
    · show Steps pP.tables eE below (s₁.setTop (mkF mM 9 #[.val (.long q), .second, .val (.int (128 : Int32))] [(.int (lcmpW q (-128 : Int64)))])) tT
      refine XS.ifNo X0.here hx rfl (Jvm.hb hby own_d5_9) rfl ((if0 _ _).trans (flt (mt (lw_lt q (-128 : Int64)).mp (hc9_1_ : ¬ (q < (-128 : Int64))))).1) ?_
      show Steps pP.tables eE below (s₁.setTop (mkF mM 12 #[.val (.long q), .second, .val (.int (128 : Int32))] [])) tT
      refine XS.lloadN X0.here hx rfl (Jvm.hb hby own_d5_12) rfl ?_
      show Steps pP.tables eE below (s₁.setTop (mkF mM 13 #[.val (.long q), .second, .val (.int (128 : Int32))] [(.long q)])) tT
      refine X0.ldc2Long hx hown (mvT hZ (hw _ (List.mem_of_getElem? (i := 38) rfl))) (g := (mkF mM 13 #[.val (.long q), .second, .val (.int (128 : Int32))] [(.long q)])) rfl (Jvm.hb hby own_d5_13) _ ?_
      show Steps pP.tables eE below (s₁.setTop (mkF mM 16 #[.val (.long q), .second, .val (.int (128 : Int32))] [(.long (127 : Int64)), (.long q)])) tT
      refine XS.lcmp X0.here hx rfl (Jvm.hb hby own_d5_16) rfl ?_
      show Steps pP.tables eE below (s₁.setTop (mkF mM 17 #[.val (.long q), .second, .val (.int (128 : Int32))] [(.int (lcmpW q (127 : Int64)))])) tT
      exact kK
    by_cases hc17_8_ : (127 : Int64) < q
    · refine own_fin (b := s₁.setTop (mkF mM 31 #[.val (.long q), .second, .val (.int (128 : Int32))] [])) (fun tT kK => ?_) ?_
      · show Steps pP.tables eE below (s₁.setTop (mkF mM 17 #[.val (.long q), .second, .val (.int (128 : Int32))] [(.int (lcmpW q (127 : Int64)))])) tT
        refine XS.ifYes X0.here hx rfl (pc0 := 17) (pc' := 31) rfl (Jvm.hb hby own_d5_17) rfl ((if0 _ _).trans (tlt ((lw_gt q (127 : Int64)).mpr (hc17_8_ : (127 : Int64) < q))).2.2.1) (by decide) (by decide) ?_
        show Steps pP.tables eE below (s₁.setTop (mkF mM 31 #[.val (.long q), .second, .val (.int (128 : Int32))] [])) tT
        exact kK
      obtain ⟨T9_, h9_, X9_, e9_, E9_, A9_, D9_, -, st9_⟩ := newO X0 hx hZ hown (hw _ (List.mem_of_getElem? (i := 43) rfl)) (hw _ (List.mem_of_getElem? (i := 44) rfl)) (hw _ (List.mem_of_getElem? (i := 35) rfl)) e0 (g := (mkF mM 31 #[.val (.long q), .second, .val (.int (128 : Int32))] [])) rfl (Jvm.hb hby own_d5_31) (by decide) (by decide)
      obtain ⟨b9_, g9_⟩ : ∃ z, z = h0.size := ⟨_, rfl⟩
      rw [← g9_] at A9_ D9_ st9_
      have sz_b9_ : h0.size ≤ b9_ := Nat.le_trans K0.1 (Nat.le_of_eq g9_.symm)
      have ge_b9_ : n0 ≤ b9_ := Nat.le_trans Z0 sz_b9_
      have fc10_ := Oa.ext E9_
      have fc11_ := Sx.ext E9_
      have K9_ := K0.ext E9_
      have F9__value : Fld Z h9_ b9_ "java/lang/Long" "value" "J" (.long (0 : Int64)) := D9_ (Or.inr (hw _ (List.mem_of_getElem? (i := 57) rfl))) (ty := .long) (by decide)
      refine own_fin st9_ ?_
      show own_Fin pP eE below _ (T9_.setTop (mkF mM 34 #[.val (.long q), .second, .val (.int (128 : Int32))] [(.ref b9_)]))
      refine own_fin (b := T9_.setTop (mkF mM 36 #[.val (.long q), .second, .val (.int (128 : Int32))] [(.long q), (.ref b9_), (.ref b9_)])) (fun tT kK => ?_) ?_
      · show Steps pP.tables eE below (T9_.setTop (mkF mM 34 #[.val (.long q), .second, .val (.int (128 : Int32))] [(.ref b9_)])) tT
        refine XS.dup X9_.here hx rfl (Jvm.hb hby own_d5_34) rfl rfl ?_
        show Steps pP.tables eE below (T9_.setTop (mkF mM 35 #[.val (.long q), .second, .val (.int (128 : Int32))] [(.ref b9_), (.ref b9_)])) tT
        refine XS.lloadN X9_.here hx rfl (Jvm.hb hby own_d5_35) rfl ?_
        show Steps pP.tables eE below (T9_.setTop (mkF mM 36 #[.val (.long q), .second, .val (.int (128 : Int32))] [(.long q), (.ref b9_), (.ref b9_)])) tT
        exact kK
      obtain ⟨_, _, ⟨T12_, L12_, k12_, n12_⟩, -, X12_, ⟨Lc12_, hQ12_, l12_, y12_, z12_⟩, st12_⟩ := X9_.specialBack hx (y := (⟨"java/lang/Long", "<init>", "(J)V"⟩ : MethodName)) rfl hown (mvT hZ (hw _ (List.mem_of_getElem? (i := 45) rfl))) (mvT hZ (hw _ (List.mem_of_getElem? (i := 46) rfl))) (mvT hZ (hw _ (List.mem_of_getElem? (i := 48) rfl))) (by decide) (backOf (W := 1) (rm_linit lL Z a0 hw [] b9_ q h9_ n0 (Nat.le_trans Z0 K9_.1) A9_ F9__value ge_b9_) hZ (hw _ (List.mem_of_getElem? (i := 48) rfl)) (hw _ (List.mem_of_getElem? (i := 35) rfl)) (by decide) (by decide)) (g := (mkF mM 36 #[.val (.long q), .second, .val (.int (128 : Int32))] [(.long q), (.ref b9_), (.ref b9_)])) rfl (by rw [hml]; rfl) (Steps.refl _) (a := b9_) (argsL := [(.long q)]) (rest := [(.ref b9_)]) (lenOf own_pd1 rfl) rfl (by show 2 * 0 + _ ≤ _; exact Nat.le_of_eq rfl) (Jvm.hb hby own_d5_36) (fun _ _ => ⟨rfl, e9_, (by decide : 1 + 0 ≤ _), (by decide : 1 + 0 ≤ _)⟩)
      dsimp only [Pt.U, Pt.locs, Pt.cells, Pt.slots] at X12_ l12_ y12_ z12_ st12_ hQ12_
      subst l12_ y12_ z12_
      obtain ⟨rfl, N12_q, p12__0, p12__1⟩ := hQ12_
      have N12_ := Fr.app N0 N12_q
      have fc13_ := fc10_.keep p12__0 (allS ge_b9_ all0)
      have fc14_ := A9_.keep p12__0
      have K12_ := K9_.trans p12__0 (allS (Or.inr sz_b9_) all0)
      refine own_fin (fun tT kK => st12_.trans kK) ?_
      show own_Fin pP eE below _ (T12_.setTop (mkF mM 39 #[.val (.long q), .second, .val (.int (128 : Int32))] [(.ref b9_)]))
      obtain ⟨fs, hr, hrun, hended, hW, hsame⟩ := X12_.leave (v := some (.ref b9_)) (fun h => by rw [Bd.returns] at h; cases h)
      refine ⟨_, _, ?_, hrun, hended, _, _, rfl, ?_, ⟨_, rfl⟩, hW, hsame.mono (by decide) (by decide)⟩
      · show Steps pP.tables eE below (T12_.setTop (mkF mM 39 #[.val (.long q), .second, .val (.int (128 : Int32))] [(.ref b9_)])) _
        exact retOut X12_ hx Bd.returns rfl (Or.inr (Or.inr (Or.inr (Or.inr ⟨rfl, rfl, rfl⟩)))) (Jvm.hb hby own_d5_39) hr
      · show Q_rm_lval Z q ca cc h0 n0 _ T12_.heap _
        exact ⟨b9_, rfl, N12_, K12_, p12__1⟩
    · refine own_fin (b := s₁.setTop (mkF mM 20 #[.val (.long q), .second, .val (.int (128 : Int32))] [])) (fun tT kK => ?_) ?_
      · show Steps pP.tables eE below (s₁.setTop (mkF mM 17 #[.val (.long q), .second, .val (.int (128 : Int32))] [(.int (lcmpW q (127 : Int64)))])) tT
        refine XS.ifNo X0.here hx rfl (Jvm.hb hby own_d5_17) rfl ((if0 _ _).trans (flt (mt (lw_gt q (127 : Int64)).mp (hc17_8_ : ¬ ((127 : Int64) < q)))).2.2.1) ?_
        show Steps pP.tables eE below (s₁.setTop (mkF mM 20 #[.val (.long q), .second, .val (.int (128 : Int32))] [])) tT
        exact kK
      obtain ⟨T15_, X15_, e15_, st15_⟩ := getS2 X0 hx hZ hown (host := "") (Or.inl (hw _ (List.mem_of_getElem? (i := 39) rfl))) Via.refl e0 Sx (g := (mkF mM 20 #[.val (.long q), .second, .val (.int (128 : Int32))] [])) rfl (Jvm.hb hby own_d5_20)
      refine own_fin st15_ ?_
      show own_Fin pP eE below _ (T15_.setTop (mkF mM 23 #[.val (.long q), .second, .val (.int (128 : Int32))] [(.ref ca)]))
      refine own_fin (b := T15_.setTop (mkF mM 29 #[.val (.long q), .second, .val (.int (128 : Int32))] [(.int ((q.toInt32) + (128 : Int32))), (.ref ca)])) (fun tT kK => ?_) ?_
      · show Steps pP.tables eE below (T15_.setTop (mkF mM 23 #[.val (.long q), .second, .val (.int (128 : Int32))] [(.ref ca)])) tT
        refine XS.lloadN X15_.here hx rfl (Jvm.hb hby own_d5_23) rfl ?_
        show Steps pP.tables eE below (T15_.setTop (mkF mM 24 #[.val (.long q), .second, .val (.int (128 : Int32))] [(.long q), (.ref ca)])) tT
        refine XS.l2i X15_.here hx rfl (Jvm.hb hby own_d5_24) rfl ?_
        show Steps pP.tables eE below (T15_.setTop (mkF mM 25 #[.val (.long q), .second, .val (.int (128 : Int32))] [(.int (q.toInt32)), (.ref ca)])) tT
        refine XS.sipush X15_.here hx rfl (Jvm.hb hby own_d5_25) ?_
        show Steps pP.tables eE below (T15_.setTop (mkF mM 28 #[.val (.long q), .second, .val (.int (128 : Int32))] [(.int (128 : Int32)), (.int (q.toInt32)), (.ref ca)])) tT
        refine XS.iadd X15_.here hx rfl (Jvm.hb hby own_d5_28) rfl ?_
        show Steps pP.tables eE below (T15_.setTop (mkF mM 29 #[.val (.long q), .second, .val (.int (128 : Int32))] [(.int ((q.toInt32) + (128 : Int32))), (.ref ca)])) tT
        exact kK
      obtain ⟨Ax, Az, Ae⟩ := Ca
      have hin := (Jvm.Free.LongBox.place_okL q hc9_1_ hc17_8_).1
      rw [← Az] at hin
      obtain ⟨bx, hat, Ex⟩ := Ae _ hin
      have Ax' := Ax.ext Oa.2
      have Ex' := Ex.ext Oa.2
      refine own_fin (b := T15_.setTop (mkF mM 30 #[.val (.long q), .second, .val (.int (128 : Int32))] [(.ref bx)])) (fun tT kK => ?_) ?_
      · show Steps pP.tables eE below (T15_.setTop (mkF mM 29 #[.val (.long q), .second, .val (.int (128 : Int32))] [(.int ((q.toInt32) + (128 : Int32))), (.ref ca)])) tT
        refine X15_.aaload hx (j := ((q.toInt32) + (128 : Int32))) (v := (.ref bx)) (own_rw e15_ Ax'.1) (State.isArrayOf_alike hZ.alike Ax'.2.1) rfl Ax'.2.2 hin hat (g := (mkF mM 29 #[.val (.long q), .second, .val (.int (128 : Int32))] [(.int ((q.toInt32) + (128 : Int32))), (.ref ca)])) rfl rfl (Jvm.hb hby own_d5_29) _ ?_
        show Steps pP.tables eE below (T15_.setTop (mkF mM 30 #[.val (.long q), .second, .val (.int (128 : Int32))] [(.ref bx)])) tT
        exact kK
      obtain ⟨fs, hr, hrun, hended, hW, hsame⟩ := X15_.leave (v := some (.ref bx)) (fun h => by rw [Bd.returns] at h; cases h)
      refine ⟨_, _, ?_, hrun, hended, _, _, rfl, ?_, ⟨_, rfl⟩, hW, hsame.mono (by decide) (by decide)⟩
      · show Steps pP.tables eE below (T15_.setTop (mkF mM 30 #[.val (.long q), .second, .val (.int (128 : Int32))] [(.ref bx)])) _
        exact retOut X15_ hx Bd.returns rfl (Or.inr (Or.inr (Or.inr (Or.inr ⟨rfl, rfl, rfl⟩)))) (Jvm.hb hby own_d5_30) hr
      · show Q_rm_lval Z q ca cc h0 n0 _ T15_.heap _
        rw [e15_]
        exact ⟨bx, rfl, N0, K0, Ex'⟩
theorem own_ef_rm_no (mM : MethodId) (x0 : Addr) (x1 : Addr) : entryFrame mM #[(.ref x0), (.ref x1)] 3 = mkF mM 0 #[.val (.ref x0), .val (.ref x1), .unset] [] := by first | (simp [entryFrame, mkF, argsToLocals, Value.category]; done) | rfl
def Q_rm_no (Z : State) (a : Addr) (o : Addr) (h0 : Heap) (n0 : Nat) (vV : Option Value) (hH : Heap) (lA : List Loc) : Prop := vV = some (.int (0 : Int32)) ∧ Fr n0 lA ∧ (hH = h0)
set_option maxRecDepth 65536 in
set_option maxHeartbeats 40000000 in
theorem rm_no (lL : Launch) (Z : State) (a0 : Array Value) (hw : ∀ d ∈ tables_1, d.before a0 Z = true) (ws : List Jvm.Cond) (a : Addr) (o : Addr) (h0 : Heap) (n0 : Nat) (Z0 : n0 ≤ h0.size) (Eo : Exa Z h0 o "java/lang/Long") :
    MetFree lL (⟨"com/example/epoch/epoch/Accepted", "equals", "(Ljava/lang/Object;)Z"⟩ : MethodName) (head1 (Jvm.Cond.code (⟨"com/example/epoch/epoch/Accepted", "equals", "(Ljava/lang/Object;)Z"⟩ : MethodName) prog_1_method_4_code 3 (some .boolean) :: ws) ({ frames := 0, cells := 0, slots := 0, locals := 0 } : Room)) (fun aA uU => aA = #[(.ref a), (.ref o)] ∧ Z.Warmed39 uU.vm ∧ uU.heap = h0) (fun _ _ _ _ _ => True) (fun _ uU oO uU' => ∃ vV lA, oO = .returned vV ∧ Q_rm_no Z a o h0 n0 vV uU'.heap lA ∧ FrameEnd uU oO uU' lA ({ frames := 0, cells := 0, slots := 0, locals := 0 } : Room).cells ({ frames := 0, cells := 0, slots := 0, locals := 0 } : Room).slots) := by
  refine MetFree.of_bodySF (plainFor_of_name own_pn_com_example_epoch_epoch_Accepted) hisR ?_
  intro pP eE sS mM args below meth cC s₁ Bd hml0 hP hK
  obtain ⟨rfl, hZ, hh⟩ := hP
  have hx := Bd.exec
  have hby := Bd.bytes
  have hml : cC.maxLocals = 3 := hml0
  have hown : sS.vm.findClass "com/example/epoch/epoch/Accepted" = some mM.cls := findClass_of_methodNamed Bd.named
  have hnm := (name_of_methodNamed Bd.named Bd.method).1
  have X0 : Stand pP lL eE ({ frames := 0, cells := 0, slots := 0, locals := 0 } : Room) sS mM #[(.ref a), (.ref o)] below meth cC s₁ [] 0 0 := Stand.of_body Bd
  have e0 : s₁.heap = h0 := by rw [← hh, Bd.state]; rfl
  have N0 := Fr.nil n0
  have K0 := Keep.refl h0 ([] : List Addr)
  show own_Fin pP eE below (fun tT oO => ∃ vV lA, oO = .returned vV ∧ Q_rm_no Z a o h0 n0 vV tT.heap lA ∧ FrameEnd sS oO tT lA ({ frames := 0, cells := 0, slots := 0, locals := 0 } : Room).cells ({ frames := 0, cells := 0, slots := 0, locals := 0 } : Room).slots) (s₁.setTop (entryFrame mM #[(.ref a), (.ref o)] 3))
  refine own_fin (b := s₁.setTop (mkF mM 0 #[.val (.ref a), .val (.ref o), .unset] [])) (fun tT kK => castTop (own_ef_rm_no mM a o) kK) ?_
  refine own_fin (b := s₁.setTop (mkF mM 1 #[.val (.ref a), .val (.ref o), .unset] [(.ref o)])) (fun tT kK => ?_) ?_
  · show Steps pP.tables eE below (s₁.setTop (mkF mM 0 #[.val (.ref a), .val (.ref o), .unset] [])) tT
    refine XS.aloadN X0.here hx rfl (Jvm.hb hby own_d3_0) rfl rfl ?_
    show Steps pP.tables eE below (s₁.setTop (mkF mM 1 #[.val (.ref a), .val (.ref o), .unset] [(.ref o)])) tT
    exact kK
  obtain ⟨T1_, X1_, e1_, st1_⟩ := instNo X0 hx hZ hown (hw _ (List.mem_of_getElem? (i := 18) rfl)) e0 Eo (own_NSno (hw _ (List.mem_of_getElem? (i := 41) rfl)) (hw _ (List.mem_of_getElem? (i := 1) rfl)) (NS.step (hw _ (List.mem_of_getElem? (i := 41) rfl)) (NS.step (hw _ (List.mem_of_getElem? (i := 42) rfl)) (own_NSroot (hw _ (List.mem_of_getElem? (i := 32) rfl)) (hw _ (List.mem_of_getElem? (i := 1) rfl)) (by decide)) (by decide)) (by decide)) (by decide)) (g := (mkF mM 1 #[.val (.ref a), .val (.ref o), .unset] [(.ref o)])) rfl rfl (Jvm.hb hby own_d3_1)
  refine own_fin st1_ ?_
  show own_Fin pP eE below _ (T1_.setTop (mkF mM 4 #[.val (.ref a), .val (.ref o), .unset] [(.int (0 : Int32))]))
  refine own_fin (b := T1_.setTop (mkF mM 40 #[.val (.ref a), .val (.ref o), .unset] [(.int (0 : Int32))])) (fun tT kK => ?_) ?_
  · show Steps pP.tables eE below (T1_.setTop (mkF mM 4 #[.val (.ref a), .val (.ref o), .unset] [(.int (0 : Int32))])) tT
    refine XS.ifYes X1_.here hx rfl (pc0 := 4) (pc' := 39) rfl (Jvm.hb hby own_d3_4) rfl ((if0 _ _).trans (teq ((by decide) : (0 : Int32) = (0 : Int32))).1) (by decide) (by decide) ?_
    show Steps pP.tables eE below (T1_.setTop (mkF mM 39 #[.val (.ref a), .val (.ref o), .unset] [])) tT
    refine XS.iconst X1_.here hx rfl (Jvm.hb hby own_d3_39) ?_
    show Steps pP.tables eE below (T1_.setTop (mkF mM 40 #[.val (.ref a), .val (.ref o), .unset] [(.int (0 : Int32))])) tT
    exact kK
  obtain ⟨fs, hr, hrun, hended, hW, hsame⟩ := X1_.leave (v := some (.int (0 : Int32))) (fun h => by rw [Bd.returns] at h; cases h)
  refine ⟨_, _, ?_, hrun, hended, _, _, rfl, ?_, ⟨_, rfl⟩, hW, hsame.mono (by decide) (by decide)⟩
  · show Steps pP.tables eE below (T1_.setTop (mkF mM 40 #[.val (.ref a), .val (.ref o), .unset] [(.int (0 : Int32))])) _
    exact retN X1_ hx (t := .boolean) Bd.returns (by simp) (Jvm.hb hby own_d3_40) hr
  · show Q_rm_no Z a o h0 n0 _ T1_.heap _
    rw [e1_]
    exact ⟨rfl, N0, rfl⟩
theorem own_ef_rm_no2 (mM : MethodId) (x0 : Addr) (x1 : Addr) : entryFrame mM #[(.ref x0), (.ref x1)] 3 = mkF mM 0 #[.val (.ref x0), .val (.ref x1), .unset] [] := by first | (simp [entryFrame, mkF, argsToLocals, Value.category]; done) | rfl
def Q_rm_no2 (Z : State) (a : Addr) (o : Addr) (h0 : Heap) (n0 : Nat) (vV : Option Value) (hH : Heap) (lA : List Loc) : Prop := vV = some (.int (0 : Int32)) ∧ Fr n0 lA ∧ (hH = h0)
set_option maxRecDepth 65536 in
set_option maxHeartbeats 40000000 in
theorem rm_no2 (lL : Launch) (Z : State) (a0 : Array Value) (hw : ∀ d ∈ tables_1, d.before a0 Z = true) (ws : List Jvm.Cond) (a : Addr) (o : Addr) (h0 : Heap) (n0 : Nat) (Z0 : n0 ≤ h0.size) (Eo : Exa Z h0 o "com/example/epoch/epoch/Superseded") :
    MetFree lL (⟨"com/example/epoch/epoch/Accepted", "equals", "(Ljava/lang/Object;)Z"⟩ : MethodName) (head1 (Jvm.Cond.code (⟨"com/example/epoch/epoch/Accepted", "equals", "(Ljava/lang/Object;)Z"⟩ : MethodName) prog_1_method_4_code 3 (some .boolean) :: ws) ({ frames := 0, cells := 0, slots := 0, locals := 0 } : Room)) (fun aA uU => aA = #[(.ref a), (.ref o)] ∧ Z.Warmed39 uU.vm ∧ uU.heap = h0) (fun _ _ _ _ _ => True) (fun _ uU oO uU' => ∃ vV lA, oO = .returned vV ∧ Q_rm_no2 Z a o h0 n0 vV uU'.heap lA ∧ FrameEnd uU oO uU' lA ({ frames := 0, cells := 0, slots := 0, locals := 0 } : Room).cells ({ frames := 0, cells := 0, slots := 0, locals := 0 } : Room).slots) := by
  refine MetFree.of_bodySF (plainFor_of_name own_pn_com_example_epoch_epoch_Accepted) hisR ?_
  intro pP eE sS mM args below meth cC s₁ Bd hml0 hP hK
  obtain ⟨rfl, hZ, hh⟩ := hP
  have hx := Bd.exec
  have hby := Bd.bytes
  have hml : cC.maxLocals = 3 := hml0
  have hown : sS.vm.findClass "com/example/epoch/epoch/Accepted" = some mM.cls := findClass_of_methodNamed Bd.named
  have hnm := (name_of_methodNamed Bd.named Bd.method).1
  have X0 : Stand pP lL eE ({ frames := 0, cells := 0, slots := 0, locals := 0 } : Room) sS mM #[(.ref a), (.ref o)] below meth cC s₁ [] 0 0 := Stand.of_body Bd
  have e0 : s₁.heap = h0 := by rw [← hh, Bd.state]; rfl
  have N0 := Fr.nil n0
  have K0 := Keep.refl h0 ([] : List Addr)
  show own_Fin pP eE below (fun tT oO => ∃ vV lA, oO = .returned vV ∧ Q_rm_no2 Z a o h0 n0 vV tT.heap lA ∧ FrameEnd sS oO tT lA ({ frames := 0, cells := 0, slots := 0, locals := 0 } : Room).cells ({ frames := 0, cells := 0, slots := 0, locals := 0 } : Room).slots) (s₁.setTop (entryFrame mM #[(.ref a), (.ref o)] 3))
  refine own_fin (b := s₁.setTop (mkF mM 0 #[.val (.ref a), .val (.ref o), .unset] [])) (fun tT kK => castTop (own_ef_rm_no2 mM a o) kK) ?_
  refine own_fin (b := s₁.setTop (mkF mM 1 #[.val (.ref a), .val (.ref o), .unset] [(.ref o)])) (fun tT kK => ?_) ?_
  · show Steps pP.tables eE below (s₁.setTop (mkF mM 0 #[.val (.ref a), .val (.ref o), .unset] [])) tT
    refine XS.aloadN X0.here hx rfl (Jvm.hb hby own_d3_0) rfl rfl ?_
    show Steps pP.tables eE below (s₁.setTop (mkF mM 1 #[.val (.ref a), .val (.ref o), .unset] [(.ref o)])) tT
    exact kK
  obtain ⟨T1_, X1_, e1_, st1_⟩ := instNo X0 hx hZ hown (hw _ (List.mem_of_getElem? (i := 18) rfl)) e0 Eo (own_NSno (hw _ (List.mem_of_getElem? (i := 31) rfl)) (hw _ (List.mem_of_getElem? (i := 1) rfl)) (NS.step (hw _ (List.mem_of_getElem? (i := 31) rfl)) (own_NSroot (hw _ (List.mem_of_getElem? (i := 32) rfl)) (hw _ (List.mem_of_getElem? (i := 1) rfl)) (by decide)) (by decide)) (by decide)) (g := (mkF mM 1 #[.val (.ref a), .val (.ref o), .unset] [(.ref o)])) rfl rfl (Jvm.hb hby own_d3_1)
  refine own_fin st1_ ?_
  show own_Fin pP eE below _ (T1_.setTop (mkF mM 4 #[.val (.ref a), .val (.ref o), .unset] [(.int (0 : Int32))]))
  refine own_fin (b := T1_.setTop (mkF mM 40 #[.val (.ref a), .val (.ref o), .unset] [(.int (0 : Int32))])) (fun tT kK => ?_) ?_
  · show Steps pP.tables eE below (T1_.setTop (mkF mM 4 #[.val (.ref a), .val (.ref o), .unset] [(.int (0 : Int32))])) tT
    refine XS.ifYes X1_.here hx rfl (pc0 := 4) (pc' := 39) rfl (Jvm.hb hby own_d3_4) rfl ((if0 _ _).trans (teq ((by decide) : (0 : Int32) = (0 : Int32))).1) (by decide) (by decide) ?_
    show Steps pP.tables eE below (T1_.setTop (mkF mM 39 #[.val (.ref a), .val (.ref o), .unset] [])) tT
    refine XS.iconst X1_.here hx rfl (Jvm.hb hby own_d3_39) ?_
    show Steps pP.tables eE below (T1_.setTop (mkF mM 40 #[.val (.ref a), .val (.ref o), .unset] [(.int (0 : Int32))])) tT
    exact kK
  obtain ⟨fs, hr, hrun, hended, hW, hsame⟩ := X1_.leave (v := some (.int (0 : Int32))) (fun h => by rw [Bd.returns] at h; cases h)
  refine ⟨_, _, ?_, hrun, hended, _, _, rfl, ?_, ⟨_, rfl⟩, hW, hsame.mono (by decide) (by decide)⟩
  · show Steps pP.tables eE below (T1_.setTop (mkF mM 40 #[.val (.ref a), .val (.ref o), .unset] [(.int (0 : Int32))])) _
    exact retN X1_ hx (t := .boolean) Bd.returns (by simp) (Jvm.hb hby own_d3_40) hr
  · show Q_rm_no2 Z a o h0 n0 _ T1_.heap _
    rw [e1_]
    exact ⟨rfl, N0, rfl⟩
theorem own_pd2 : parseMethodDescriptor "(IJ)V" = some ⟨[.int, .long], none⟩ := by decide +kernel
theorem own_pd3 : parseMethodDescriptor "(Ljava/lang/Object;)Z" = some ⟨[(.object "java/lang/Object")], some .boolean⟩ := by decide +kernel
theorem own_pd4 : parseMethodDescriptor "(JLjava/lang/String;)V" = some ⟨[.long, (.object "java/lang/String")], none⟩ := by decide +kernel
theorem own_pd5 : parseMethodDescriptor "(J)Ljava/lang/Long;" = some ⟨[.long], some (.object "java/lang/Long")⟩ := by decide +kernel
theorem own_pn_com_example_epoch_epoch_AcceptedEqualsPinLaw : plainName "com/example/epoch/epoch/AcceptedEqualsPinLaw" = true := by first | (simp [plainName, overriddenIn]; done) | decide +kernel
theorem own_ef_rm0 (mM : MethodId) (x0 : Int32) (x1 : Int64) (x2 : Int32) (x3 : Int64) (x4 : Int32) : entryFrame mM #[(.int x0), (.long x1), (.int x2), (.long x3), (.int x4)] maxLocals = mkF mM 0 #[.val (.int x0), .val (.long x1), .second, .val (.int x2), .val (.long x3), .second, .val (.int x4), .unset, .unset, .unset, .unset, .unset, .unset, .unset, .unset, .unset] [] := by first | (simp [entryFrame, mkF, argsToLocals, Value.category, maxLocals]; done) | rfl
def Q_rm0 (Z : State) (p1 : Int32) (q2 : Int64) (p3 : Int32) (q4 : Int64) (p5 : Int32) (ca : Addr) (cc : Cell) (h0 : Heap) (n0 : Nat) (vV : Option Value) (hH : Heap) (lA : List Loc) : Prop := vV = some (.int (1 : Int32)) ∧ Fr n0 lA
set_option maxRecDepth 65536 in
set_option maxHeartbeats 40000000 in
theorem rm0 (lL : Launch) (Z : State) (a0 : Array Value) (hw : ∀ d ∈ tables_1, d.before a0 Z = true) (ws : List Jvm.Cond) (p1 : Int32) (q2 : Int64) (p3 : Int32) (q4 : Int64) (p5 : Int32) (ca : Addr) (cc : Cell) (h0 : Heap) (n0 : Nat) (Z0 : n0 ≤ h0.size) (Oa : Old Z n0 h0) (Ca : own_Cache Z ca cc) (Sa : Sta Z Z.heap "java/lang/Long$LongCache" "cache" "[Ljava/lang/Long;" (.ref ca)) :
    MetFree lL x (head1 (Jvm.Cond.code x code maxLocals ret :: ws) room_1) (fun aA uU => aA = #[(.int p1), (.long q2), (.int p3), (.long q4), (.int p5)] ∧ Z.Warmed39 uU.vm ∧ uU.heap = h0) (fun _ _ _ _ _ => True) (fun _ uU oO uU' => ∃ vV lA, oO = .returned vV ∧ Q_rm0 Z p1 q2 p3 q4 p5 ca cc h0 n0 vV uU'.heap lA ∧ FrameEnd uU oO uU' lA room_1.cells room_1.slots) := by
  refine MetFree.of_bodySF (plainFor_of_name own_pn_com_example_epoch_epoch_AcceptedEqualsPinLaw) hisR ?_
  intro pP eE sS mM args below meth cC s₁ Bd hml0 hP hK
  obtain ⟨rfl, hZ, hh⟩ := hP
  have hx := Bd.exec
  have hby := Bd.bytes
  have hml : cC.maxLocals = 16 := hml0
  have hown : sS.vm.findClass "com/example/epoch/epoch/AcceptedEqualsPinLaw" = some mM.cls := findClass_of_methodNamed Bd.named
  have hnm := (name_of_methodNamed Bd.named Bd.method).1
  have X0 : Stand pP lL eE room_1 sS mM #[(.int p1), (.long q2), (.int p3), (.long q4), (.int p5)] below meth cC s₁ [] 0 0 := Stand.of_body Bd
  have e0 : s₁.heap = h0 := by rw [← hh, Bd.state]; rfl
  have N0 := Fr.nil n0
  have K0 := Keep.refl h0 ([] : List Addr)
  show own_Fin pP eE below (fun tT oO => ∃ vV lA, oO = .returned vV ∧ Q_rm0 Z p1 q2 p3 q4 p5 ca cc h0 n0 vV tT.heap lA ∧ FrameEnd sS oO tT lA room_1.cells room_1.slots) (s₁.setTop (entryFrame mM #[(.int p1), (.long q2), (.int p3), (.long q4), (.int p5)] maxLocals))
  refine own_fin (b := s₁.setTop (mkF mM 0 #[.val (.int p1), .val (.long q2), .second, .val (.int p3), .val (.long q4), .second, .val (.int p5), .unset, .unset, .unset, .unset, .unset, .unset, .unset, .unset, .unset] [])) (fun tT kK => castTop (own_ef_rm0 mM p1 q2 p3 q4 p5) kK) ?_
  refine own_fin (b := s₁.setTop (mkF mM 4 #[.val (.int p1), .val (.long q2), .second, .val (.int p3), .val (.long q4), .second, .val (.int p5), .unset, .unset, .unset, .unset, .unset, .unset, .unset, .unset, .unset] [(.int (p5 &&& (1 : Int32)))])) (fun tT kK => ?_) ?_
  · show Steps pP.tables eE below (s₁.setTop (mkF mM 0 #[.val (.int p1), .val (.long q2), .second, .val (.int p3), .val (.long q4), .second, .val (.int p5), .unset, .unset, .unset, .unset, .unset, .unset, .unset, .unset, .unset] [])) tT
    refine XS.iload X0.here hx rfl (Jvm.hb hby at_0) rfl ?_
    show Steps pP.tables eE below (s₁.setTop (mkF mM 2 #[.val (.int p1), .val (.long q2), .second, .val (.int p3), .val (.long q4), .second, .val (.int p5), .unset, .unset, .unset, .unset, .unset, .unset, .unset, .unset, .unset] [(.int p5)])) tT
    refine XS.iconst X0.here hx rfl (Jvm.hb hby at_2) ?_
    show Steps pP.tables eE below (s₁.setTop (mkF mM 3 #[.val (.int p1), .val (.long q2), .second, .val (.int p3), .val (.long q4), .second, .val (.int p5), .unset, .unset, .unset, .unset, .unset, .unset, .unset, .unset, .unset] [(.int (1 : Int32)), (.int p5)])) tT
    refine XS.iand X0.here hx rfl (Jvm.hb hby at_3) rfl ?_
    show Steps pP.tables eE below (s₁.setTop (mkF mM 4 #[.val (.int p1), .val (.long q2), .second, .val (.int p3), .val (.long q4), .second, .val (.int p5), .unset, .unset, .unset, .unset, .unset, .unset, .unset, .unset, .unset] [(.int (p5 &&& (1 : Int32)))])) tT
    exact kK
  obtain ⟨s1_, st1_⟩ : ∃ s1_ : Int32, ∀ tT, Steps pP.tables eE below (s₁.setTop (mkF mM 12 #[.val (.int p1), .val (.long q2), .second, .val (.int p3), .val (.long q4), .second, .val (.int p5), .unset, .unset, .unset, .unset, .unset, .unset, .unset, .unset, .unset] [(.int s1_)])) tT → Steps pP.tables eE below (s₁.setTop (mkF mM 4 #[.val (.int p1), .val (.long q2), .second, .val (.int p3), .val (.long q4), .second, .val (.int p5), .unset, .unset, .unset, .unset, .unset, .unset, .unset, .unset, .unset] [(.int (p5 &&& (1 : Int32)))])) tT := by
    by_cases hm1 : (p5 &&& (1 : Int32)) = (0 : Int32)
    · refine ⟨(0 : Int32), fun tT kK => ?_⟩
      refine XS.ifYes X0.here hx rfl (pc0 := 4) (pc' := 11) rfl (Jvm.hb hby at_4) rfl ((if0 _ _).trans (teq (hm1 : (p5 &&& (1 : Int32)) = (0 : Int32))).1) (by decide) (by decide) ?_
      show Steps pP.tables eE below (s₁.setTop (mkF mM 11 #[.val (.int p1), .val (.long q2), .second, .val (.int p3), .val (.long q4), .second, .val (.int p5), .unset, .unset, .unset, .unset, .unset, .unset, .unset, .unset, .unset] [])) tT
      refine XS.iconst X0.here hx rfl (Jvm.hb hby at_11) ?_
      show Steps pP.tables eE below (s₁.setTop (mkF mM 12 #[.val (.int p1), .val (.long q2), .second, .val (.int p3), .val (.long q4), .second, .val (.int p5), .unset, .unset, .unset, .unset, .unset, .unset, .unset, .unset, .unset] [(.int (0 : Int32))])) tT
      exact kK
    · refine ⟨(1 : Int32), fun tT kK => ?_⟩
      refine XS.ifNo X0.here hx rfl (Jvm.hb hby at_4) rfl ((if0 _ _).trans (feq (hm1 : ¬ ((p5 &&& (1 : Int32)) = (0 : Int32)))).1) ?_
      show Steps pP.tables eE below (s₁.setTop (mkF mM 7 #[.val (.int p1), .val (.long q2), .second, .val (.int p3), .val (.long q4), .second, .val (.int p5), .unset, .unset, .unset, .unset, .unset, .unset, .unset, .unset, .unset] [])) tT
      refine XS.iconst X0.here hx rfl (Jvm.hb hby at_7) ?_
      show Steps pP.tables eE below (s₁.setTop (mkF mM 8 #[.val (.int p1), .val (.long q2), .second, .val (.int p3), .val (.long q4), .second, .val (.int p5), .unset, .unset, .unset, .unset, .unset, .unset, .unset, .unset, .unset] [(.int (1 : Int32))])) tT
      refine XS.goto X0.here hx rfl (pc0 := 8) (pc' := 12) rfl (Jvm.hb hby at_8) (by decide) (by decide) ?_
      show Steps pP.tables eE below (s₁.setTop (mkF mM 12 #[.val (.int p1), .val (.long q2), .second, .val (.int p3), .val (.long q4), .second, .val (.int p5), .unset, .unset, .unset, .unset, .unset, .unset, .unset, .unset, .unset] [(.int (1 : Int32))])) tT
      exact kK
  refine own_fin st1_ ?_
  show own_Fin pP eE below _ (s₁.setTop (mkF mM 12 #[.val (.int p1), .val (.long q2), .second, .val (.int p3), .val (.long q4), .second, .val (.int p5), .unset, .unset, .unset, .unset, .unset, .unset, .unset, .unset, .unset] [(.int s1_)]))
  refine own_fin (b := s₁.setTop (mkF mM 18 #[.val (.int p1), .val (.long q2), .second, .val (.int p3), .val (.long q4), .second, .val (.int p5), .val (.int s1_), .unset, .unset, .unset, .unset, .unset, .unset, .unset, .unset] [(.int (p5 &&& (2 : Int32)))])) (fun tT kK => ?_) ?_
  · show Steps pP.tables eE below (s₁.setTop (mkF mM 12 #[.val (.int p1), .val (.long q2), .second, .val (.int p3), .val (.long q4), .second, .val (.int p5), .unset, .unset, .unset, .unset, .unset, .unset, .unset, .unset, .unset] [(.int s1_)])) tT
    refine XS.istore X0.here hx rfl (Jvm.hb hby at_12) rfl (l' := #[.val (.int p1), .val (.long q2), .second, .val (.int p3), .val (.long q4), .second, .val (.int p5), .val (.int s1_), .unset, .unset, .unset, .unset, .unset, .unset, .unset, .unset]) rfl ?_
    show Steps pP.tables eE below (s₁.setTop (mkF mM 14 #[.val (.int p1), .val (.long q2), .second, .val (.int p3), .val (.long q4), .second, .val (.int p5), .val (.int s1_), .unset, .unset, .unset, .unset, .unset, .unset, .unset, .unset] [])) tT
    refine XS.iload X0.here hx rfl (Jvm.hb hby at_14) rfl ?_
    show Steps pP.tables eE below (s₁.setTop (mkF mM 16 #[.val (.int p1), .val (.long q2), .second, .val (.int p3), .val (.long q4), .second, .val (.int p5), .val (.int s1_), .unset, .unset, .unset, .unset, .unset, .unset, .unset, .unset] [(.int p5)])) tT
    refine XS.iconst X0.here hx rfl (Jvm.hb hby at_16) ?_
    show Steps pP.tables eE below (s₁.setTop (mkF mM 17 #[.val (.int p1), .val (.long q2), .second, .val (.int p3), .val (.long q4), .second, .val (.int p5), .val (.int s1_), .unset, .unset, .unset, .unset, .unset, .unset, .unset, .unset] [(.int (2 : Int32)), (.int p5)])) tT
    refine XS.iand X0.here hx rfl (Jvm.hb hby at_17) rfl ?_
    show Steps pP.tables eE below (s₁.setTop (mkF mM 18 #[.val (.int p1), .val (.long q2), .second, .val (.int p3), .val (.long q4), .second, .val (.int p5), .val (.int s1_), .unset, .unset, .unset, .unset, .unset, .unset, .unset, .unset] [(.int (p5 &&& (2 : Int32)))])) tT
    exact kK
  obtain ⟨s2_, st2_⟩ : ∃ s2_ : Int32, ∀ tT, Steps pP.tables eE below (s₁.setTop (mkF mM 26 #[.val (.int p1), .val (.long q2), .second, .val (.int p3), .val (.long q4), .second, .val (.int p5), .val (.int s1_), .unset, .unset, .unset, .unset, .unset, .unset, .unset, .unset] [(.int s2_)])) tT → Steps pP.tables eE below (s₁.setTop (mkF mM 18 #[.val (.int p1), .val (.long q2), .second, .val (.int p3), .val (.long q4), .second, .val (.int p5), .val (.int s1_), .unset, .unset, .unset, .unset, .unset, .unset, .unset, .unset] [(.int (p5 &&& (2 : Int32)))])) tT := by
    by_cases hm1 : (p5 &&& (2 : Int32)) = (0 : Int32)
    · refine ⟨(0 : Int32), fun tT kK => ?_⟩
      refine XS.ifYes X0.here hx rfl (pc0 := 18) (pc' := 25) rfl (Jvm.hb hby at_18) rfl ((if0 _ _).trans (teq (hm1 : (p5 &&& (2 : Int32)) = (0 : Int32))).1) (by decide) (by decide) ?_
      show Steps pP.tables eE below (s₁.setTop (mkF mM 25 #[.val (.int p1), .val (.long q2), .second, .val (.int p3), .val (.long q4), .second, .val (.int p5), .val (.int s1_), .unset, .unset, .unset, .unset, .unset, .unset, .unset, .unset] [])) tT
      refine XS.iconst X0.here hx rfl (Jvm.hb hby at_25) ?_
      show Steps pP.tables eE below (s₁.setTop (mkF mM 26 #[.val (.int p1), .val (.long q2), .second, .val (.int p3), .val (.long q4), .second, .val (.int p5), .val (.int s1_), .unset, .unset, .unset, .unset, .unset, .unset, .unset, .unset] [(.int (0 : Int32))])) tT
      exact kK
    · refine ⟨(1 : Int32), fun tT kK => ?_⟩
      refine XS.ifNo X0.here hx rfl (Jvm.hb hby at_18) rfl ((if0 _ _).trans (feq (hm1 : ¬ ((p5 &&& (2 : Int32)) = (0 : Int32)))).1) ?_
      show Steps pP.tables eE below (s₁.setTop (mkF mM 21 #[.val (.int p1), .val (.long q2), .second, .val (.int p3), .val (.long q4), .second, .val (.int p5), .val (.int s1_), .unset, .unset, .unset, .unset, .unset, .unset, .unset, .unset] [])) tT
      refine XS.iconst X0.here hx rfl (Jvm.hb hby at_21) ?_
      show Steps pP.tables eE below (s₁.setTop (mkF mM 22 #[.val (.int p1), .val (.long q2), .second, .val (.int p3), .val (.long q4), .second, .val (.int p5), .val (.int s1_), .unset, .unset, .unset, .unset, .unset, .unset, .unset, .unset] [(.int (1 : Int32))])) tT
      refine XS.goto X0.here hx rfl (pc0 := 22) (pc' := 26) rfl (Jvm.hb hby at_22) (by decide) (by decide) ?_
      show Steps pP.tables eE below (s₁.setTop (mkF mM 26 #[.val (.int p1), .val (.long q2), .second, .val (.int p3), .val (.long q4), .second, .val (.int p5), .val (.int s1_), .unset, .unset, .unset, .unset, .unset, .unset, .unset, .unset] [(.int (1 : Int32))])) tT
      exact kK
  refine own_fin st2_ ?_
  show own_Fin pP eE below _ (s₁.setTop (mkF mM 26 #[.val (.int p1), .val (.long q2), .second, .val (.int p3), .val (.long q4), .second, .val (.int p5), .val (.int s1_), .unset, .unset, .unset, .unset, .unset, .unset, .unset, .unset] [(.int s2_)]))
  refine own_fin (b := s₁.setTop (mkF mM 36 #[.val (.int p1), .val (.long q2), .second, .val (.int p3), .val (.long q4), .second, .val (.int p5), .val (.int s1_), .val (.int s2_), .val (.int (((p5.toUInt32 >>> ((2 : Int32) &&& 31).toUInt32).toInt32) &&& (3 : Int32))), .unset, .unset, .unset, .unset, .unset, .unset] [])) (fun tT kK => ?_) ?_
  · show Steps pP.tables eE below (s₁.setTop (mkF mM 26 #[.val (.int p1), .val (.long q2), .second, .val (.int p3), .val (.long q4), .second, .val (.int p5), .val (.int s1_), .unset, .unset, .unset, .unset, .unset, .unset, .unset, .unset] [(.int s2_)])) tT
    refine XS.istore X0.here hx rfl (Jvm.hb hby at_26) rfl (l' := #[.val (.int p1), .val (.long q2), .second, .val (.int p3), .val (.long q4), .second, .val (.int p5), .val (.int s1_), .val (.int s2_), .unset, .unset, .unset, .unset, .unset, .unset, .unset]) rfl ?_
    show Steps pP.tables eE below (s₁.setTop (mkF mM 28 #[.val (.int p1), .val (.long q2), .second, .val (.int p3), .val (.long q4), .second, .val (.int p5), .val (.int s1_), .val (.int s2_), .unset, .unset, .unset, .unset, .unset, .unset, .unset] [])) tT
    refine XS.iload X0.here hx rfl (Jvm.hb hby at_28) rfl ?_
    show Steps pP.tables eE below (s₁.setTop (mkF mM 30 #[.val (.int p1), .val (.long q2), .second, .val (.int p3), .val (.long q4), .second, .val (.int p5), .val (.int s1_), .val (.int s2_), .unset, .unset, .unset, .unset, .unset, .unset, .unset] [(.int p5)])) tT
    refine XS.iconst X0.here hx rfl (Jvm.hb hby at_30) ?_
    show Steps pP.tables eE below (s₁.setTop (mkF mM 31 #[.val (.int p1), .val (.long q2), .second, .val (.int p3), .val (.long q4), .second, .val (.int p5), .val (.int s1_), .val (.int s2_), .unset, .unset, .unset, .unset, .unset, .unset, .unset] [(.int (2 : Int32)), (.int p5)])) tT
    refine XS.iushr X0.here hx rfl (Jvm.hb hby at_31) rfl ?_
    show Steps pP.tables eE below (s₁.setTop (mkF mM 32 #[.val (.int p1), .val (.long q2), .second, .val (.int p3), .val (.long q4), .second, .val (.int p5), .val (.int s1_), .val (.int s2_), .unset, .unset, .unset, .unset, .unset, .unset, .unset] [(.int ((p5.toUInt32 >>> ((2 : Int32) &&& 31).toUInt32).toInt32))])) tT
    refine XS.iconst X0.here hx rfl (Jvm.hb hby at_32) ?_
    show Steps pP.tables eE below (s₁.setTop (mkF mM 33 #[.val (.int p1), .val (.long q2), .second, .val (.int p3), .val (.long q4), .second, .val (.int p5), .val (.int s1_), .val (.int s2_), .unset, .unset, .unset, .unset, .unset, .unset, .unset] [(.int (3 : Int32)), (.int ((p5.toUInt32 >>> ((2 : Int32) &&& 31).toUInt32).toInt32))])) tT
    refine XS.iand X0.here hx rfl (Jvm.hb hby at_33) rfl ?_
    show Steps pP.tables eE below (s₁.setTop (mkF mM 34 #[.val (.int p1), .val (.long q2), .second, .val (.int p3), .val (.long q4), .second, .val (.int p5), .val (.int s1_), .val (.int s2_), .unset, .unset, .unset, .unset, .unset, .unset, .unset] [(.int (((p5.toUInt32 >>> ((2 : Int32) &&& 31).toUInt32).toInt32) &&& (3 : Int32)))])) tT
    refine XS.istore X0.here hx rfl (Jvm.hb hby at_34) rfl (l' := #[.val (.int p1), .val (.long q2), .second, .val (.int p3), .val (.long q4), .second, .val (.int p5), .val (.int s1_), .val (.int s2_), .val (.int (((p5.toUInt32 >>> ((2 : Int32) &&& 31).toUInt32).toInt32) &&& (3 : Int32))), .unset, .unset, .unset, .unset, .unset, .unset]) rfl ?_
    show Steps pP.tables eE below (s₁.setTop (mkF mM 36 #[.val (.int p1), .val (.long q2), .second, .val (.int p3), .val (.long q4), .second, .val (.int p5), .val (.int s1_), .val (.int s2_), .val (.int (((p5.toUInt32 >>> ((2 : Int32) &&& 31).toUInt32).toInt32) &&& (3 : Int32))), .unset, .unset, .unset, .unset, .unset, .unset] [])) tT
    exact kK
  show own_Fin pP eE below _ (s₁.setTop (mkF mM 36 #[.val (.int p1), .val (.long q2), .second, .val (.int p3), .val (.long q4), .second, .val (.int p5), .val (.int s1_), .val (.int s2_), .val (.int (((p5.toUInt32 >>> ((2 : Int32) &&& 31).toUInt32).toInt32) &&& (3 : Int32))), .unset, .unset, .unset, .unset, .unset, .unset] []))
  generalize hkd : (((p5.toUInt32 >>> ((2 : Int32) &&& 31).toUInt32).toInt32) &&& (3 : Int32)) = kd
  show own_Fin pP eE below _ (s₁.setTop (mkF mM 36 #[.val (.int p1), .val (.long q2), .second, .val (.int p3), .val (.long q4), .second, .val (.int p5), .val (.int s1_), .val (.int s2_), .val (.int kd), .unset, .unset, .unset, .unset, .unset, .unset] []))
  refine own_fin (b := s₁.setTop (mkF mM 38 #[.val (.int p1), .val (.long q2), .second, .val (.int p3), .val (.long q4), .second, .val (.int p5), .val (.int s1_), .val (.int s2_), .val (.int kd), .unset, .unset, .unset, .unset, .unset, .unset] [(.int s1_)])) (fun tT kK => ?_) ?_
  · show Steps pP.tables eE below (s₁.setTop (mkF mM 36 #[.val (.int p1), .val (.long q2), .second, .val (.int p3), .val (.long q4), .second, .val (.int p5), .val (.int s1_), .val (.int s2_), .val (.int kd), .unset, .unset, .unset, .unset, .unset, .unset] [])) tT
    refine XS.iload X0.here hx rfl (Jvm.hb hby at_36) rfl ?_
    show Steps pP.tables eE below (s₁.setTop (mkF mM 38 #[.val (.int p1), .val (.long q2), .second, .val (.int p3), .val (.long q4), .second, .val (.int p5), .val (.int s1_), .val (.int s2_), .val (.int kd), .unset, .unset, .unset, .unset, .unset, .unset] [(.int s1_)])) tT
    exact kK
  obtain ⟨a2, st3_⟩ : ∃ a2 : Int32, ∀ tT, Steps pP.tables eE below (s₁.setTop (mkF mM 46 #[.val (.int p1), .val (.long q2), .second, .val (.int p3), .val (.long q4), .second, .val (.int p5), .val (.int s1_), .val (.int s2_), .val (.int kd), .unset, .unset, .unset, .unset, .unset, .unset] [(.int a2)])) tT → Steps pP.tables eE below (s₁.setTop (mkF mM 38 #[.val (.int p1), .val (.long q2), .second, .val (.int p3), .val (.long q4), .second, .val (.int p5), .val (.int s1_), .val (.int s2_), .val (.int kd), .unset, .unset, .unset, .unset, .unset, .unset] [(.int s1_)])) tT := by
    by_cases hm1 : s1_ = (0 : Int32)
    · refine ⟨p3, fun tT kK => ?_⟩
      refine XS.ifYes X0.here hx rfl (pc0 := 38) (pc' := 45) rfl (Jvm.hb hby at_38) rfl ((if0 _ _).trans (teq (hm1 : s1_ = (0 : Int32))).1) (by decide) (by decide) ?_
      show Steps pP.tables eE below (s₁.setTop (mkF mM 45 #[.val (.int p1), .val (.long q2), .second, .val (.int p3), .val (.long q4), .second, .val (.int p5), .val (.int s1_), .val (.int s2_), .val (.int kd), .unset, .unset, .unset, .unset, .unset, .unset] [])) tT
      refine XS.iloadN X0.here hx rfl (Jvm.hb hby at_45) rfl ?_
      show Steps pP.tables eE below (s₁.setTop (mkF mM 46 #[.val (.int p1), .val (.long q2), .second, .val (.int p3), .val (.long q4), .second, .val (.int p5), .val (.int s1_), .val (.int s2_), .val (.int kd), .unset, .unset, .unset, .unset, .unset, .unset] [(.int p3)])) tT
      exact kK
    · refine ⟨p1, fun tT kK => ?_⟩
      refine XS.ifNo X0.here hx rfl (Jvm.hb hby at_38) rfl ((if0 _ _).trans (feq (hm1 : ¬ (s1_ = (0 : Int32)))).1) ?_
      show Steps pP.tables eE below (s₁.setTop (mkF mM 41 #[.val (.int p1), .val (.long q2), .second, .val (.int p3), .val (.long q4), .second, .val (.int p5), .val (.int s1_), .val (.int s2_), .val (.int kd), .unset, .unset, .unset, .unset, .unset, .unset] [])) tT
      refine XS.iloadN X0.here hx rfl (Jvm.hb hby at_41) rfl ?_
      show Steps pP.tables eE below (s₁.setTop (mkF mM 42 #[.val (.int p1), .val (.long q2), .second, .val (.int p3), .val (.long q4), .second, .val (.int p5), .val (.int s1_), .val (.int s2_), .val (.int kd), .unset, .unset, .unset, .unset, .unset, .unset] [(.int p1)])) tT
      refine XS.goto X0.here hx rfl (pc0 := 42) (pc' := 46) rfl (Jvm.hb hby at_42) (by decide) (by decide) ?_
      show Steps pP.tables eE below (s₁.setTop (mkF mM 46 #[.val (.int p1), .val (.long q2), .second, .val (.int p3), .val (.long q4), .second, .val (.int p5), .val (.int s1_), .val (.int s2_), .val (.int kd), .unset, .unset, .unset, .unset, .unset, .unset] [(.int p1)])) tT
      exact kK
  refine own_fin st3_ ?_
  show own_Fin pP eE below _ (s₁.setTop (mkF mM 46 #[.val (.int p1), .val (.long q2), .second, .val (.int p3), .val (.long q4), .second, .val (.int p5), .val (.int s1_), .val (.int s2_), .val (.int kd), .unset, .unset, .unset, .unset, .unset, .unset] [(.int a2)]))
  refine own_fin (b := s₁.setTop (mkF mM 50 #[.val (.int p1), .val (.long q2), .second, .val (.int p3), .val (.long q4), .second, .val (.int p5), .val (.int s1_), .val (.int s2_), .val (.int kd), .val (.int a2), .unset, .unset, .unset, .unset, .unset] [(.int s2_)])) (fun tT kK => ?_) ?_
  · show Steps pP.tables eE below (s₁.setTop (mkF mM 46 #[.val (.int p1), .val (.long q2), .second, .val (.int p3), .val (.long q4), .second, .val (.int p5), .val (.int s1_), .val (.int s2_), .val (.int kd), .unset, .unset, .unset, .unset, .unset, .unset] [(.int a2)])) tT
    refine XS.istore X0.here hx rfl (Jvm.hb hby at_46) rfl (l' := #[.val (.int p1), .val (.long q2), .second, .val (.int p3), .val (.long q4), .second, .val (.int p5), .val (.int s1_), .val (.int s2_), .val (.int kd), .val (.int a2), .unset, .unset, .unset, .unset, .unset]) rfl ?_
    show Steps pP.tables eE below (s₁.setTop (mkF mM 48 #[.val (.int p1), .val (.long q2), .second, .val (.int p3), .val (.long q4), .second, .val (.int p5), .val (.int s1_), .val (.int s2_), .val (.int kd), .val (.int a2), .unset, .unset, .unset, .unset, .unset] [])) tT
    refine XS.iload X0.here hx rfl (Jvm.hb hby at_48) rfl ?_
    show Steps pP.tables eE below (s₁.setTop (mkF mM 50 #[.val (.int p1), .val (.long q2), .second, .val (.int p3), .val (.long q4), .second, .val (.int p5), .val (.int s1_), .val (.int s2_), .val (.int kd), .val (.int a2), .unset, .unset, .unset, .unset, .unset] [(.int s2_)])) tT
    exact kK
  obtain ⟨l2, st4_⟩ : ∃ l2 : Int64, ∀ tT, Steps pP.tables eE below (s₁.setTop (mkF mM 59 #[.val (.int p1), .val (.long q2), .second, .val (.int p3), .val (.long q4), .second, .val (.int p5), .val (.int s1_), .val (.int s2_), .val (.int kd), .val (.int a2), .unset, .unset, .unset, .unset, .unset] [(.long l2)])) tT → Steps pP.tables eE below (s₁.setTop (mkF mM 50 #[.val (.int p1), .val (.long q2), .second, .val (.int p3), .val (.long q4), .second, .val (.int p5), .val (.int s1_), .val (.int s2_), .val (.int kd), .val (.int a2), .unset, .unset, .unset, .unset, .unset] [(.int s2_)])) tT := by
    by_cases hm1 : s2_ = (0 : Int32)
    · refine ⟨q4, fun tT kK => ?_⟩
      refine XS.ifYes X0.here hx rfl (pc0 := 50) (pc' := 57) rfl (Jvm.hb hby at_50) rfl ((if0 _ _).trans (teq (hm1 : s2_ = (0 : Int32))).1) (by decide) (by decide) ?_
      show Steps pP.tables eE below (s₁.setTop (mkF mM 57 #[.val (.int p1), .val (.long q2), .second, .val (.int p3), .val (.long q4), .second, .val (.int p5), .val (.int s1_), .val (.int s2_), .val (.int kd), .val (.int a2), .unset, .unset, .unset, .unset, .unset] [])) tT
      refine XS.lload X0.here hx rfl (Jvm.hb hby at_57) rfl ?_
      show Steps pP.tables eE below (s₁.setTop (mkF mM 59 #[.val (.int p1), .val (.long q2), .second, .val (.int p3), .val (.long q4), .second, .val (.int p5), .val (.int s1_), .val (.int s2_), .val (.int kd), .val (.int a2), .unset, .unset, .unset, .unset, .unset] [(.long q4)])) tT
      exact kK
    · refine ⟨q2, fun tT kK => ?_⟩
      refine XS.ifNo X0.here hx rfl (Jvm.hb hby at_50) rfl ((if0 _ _).trans (feq (hm1 : ¬ (s2_ = (0 : Int32)))).1) ?_
      show Steps pP.tables eE below (s₁.setTop (mkF mM 53 #[.val (.int p1), .val (.long q2), .second, .val (.int p3), .val (.long q4), .second, .val (.int p5), .val (.int s1_), .val (.int s2_), .val (.int kd), .val (.int a2), .unset, .unset, .unset, .unset, .unset] [])) tT
      refine XS.lloadN X0.here hx rfl (Jvm.hb hby at_53) rfl ?_
      show Steps pP.tables eE below (s₁.setTop (mkF mM 54 #[.val (.int p1), .val (.long q2), .second, .val (.int p3), .val (.long q4), .second, .val (.int p5), .val (.int s1_), .val (.int s2_), .val (.int kd), .val (.int a2), .unset, .unset, .unset, .unset, .unset] [(.long q2)])) tT
      refine XS.goto X0.here hx rfl (pc0 := 54) (pc' := 59) rfl (Jvm.hb hby at_54) (by decide) (by decide) ?_
      show Steps pP.tables eE below (s₁.setTop (mkF mM 59 #[.val (.int p1), .val (.long q2), .second, .val (.int p3), .val (.long q4), .second, .val (.int p5), .val (.int s1_), .val (.int s2_), .val (.int kd), .val (.int a2), .unset, .unset, .unset, .unset, .unset] [(.long q2)])) tT
      exact kK
  refine own_fin st4_ ?_
  show own_Fin pP eE below _ (s₁.setTop (mkF mM 59 #[.val (.int p1), .val (.long q2), .second, .val (.int p3), .val (.long q4), .second, .val (.int p5), .val (.int s1_), .val (.int s2_), .val (.int kd), .val (.int a2), .unset, .unset, .unset, .unset, .unset] [(.long l2)]))
  refine own_fin (b := s₁.setTop (mkF mM 61 #[.val (.int p1), .val (.long q2), .second, .val (.int p3), .val (.long q4), .second, .val (.int p5), .val (.int s1_), .val (.int s2_), .val (.int kd), .val (.int a2), .val (.long l2), .second, .unset, .unset, .unset] [])) (fun tT kK => ?_) ?_
  · show Steps pP.tables eE below (s₁.setTop (mkF mM 59 #[.val (.int p1), .val (.long q2), .second, .val (.int p3), .val (.long q4), .second, .val (.int p5), .val (.int s1_), .val (.int s2_), .val (.int kd), .val (.int a2), .unset, .unset, .unset, .unset, .unset] [(.long l2)])) tT
    refine XS.lstore X0.here hx rfl (Jvm.hb hby at_59) rfl (l' := #[.val (.int p1), .val (.long q2), .second, .val (.int p3), .val (.long q4), .second, .val (.int p5), .val (.int s1_), .val (.int s2_), .val (.int kd), .val (.int a2), .val (.long l2), .second, .unset, .unset, .unset]) rfl ?_
    show Steps pP.tables eE below (s₁.setTop (mkF mM 61 #[.val (.int p1), .val (.long q2), .second, .val (.int p3), .val (.long q4), .second, .val (.int p5), .val (.int s1_), .val (.int s2_), .val (.int kd), .val (.int a2), .val (.long l2), .second, .unset, .unset, .unset] [])) tT
    exact kK
  obtain ⟨T5_, h5_, X5_, e5_, E5_, A5_, D5_, -, st5_⟩ := newO X0 hx hZ hown (hw _ (List.mem_of_getElem? (i := 0) rfl)) (hw _ (List.mem_of_getElem? (i := 1) rfl)) (hw _ (List.mem_of_getElem? (i := 2) rfl)) e0 (g := (mkF mM 61 #[.val (.int p1), .val (.long q2), .second, .val (.int p3), .val (.long q4), .second, .val (.int p5), .val (.int s1_), .val (.int s2_), .val (.int kd), .val (.int a2), .val (.long l2), .second, .unset, .unset, .unset] [])) rfl (Jvm.hb hby at_61) (by decide) (by decide)
  obtain ⟨b5_, g5_⟩ : ∃ z, z = h0.size := ⟨_, rfl⟩
  rw [← g5_] at A5_ D5_ st5_
  have sz_b5_ : h0.size ≤ b5_ := Nat.le_trans K0.1 (Nat.le_of_eq g5_.symm)
  have ge_b5_ : n0 ≤ b5_ := Nat.le_trans Z0 sz_b5_
  have fc6_ := Oa.ext E5_
  have K5_ := K0.ext E5_
  have F5__appended : Fld Z h5_ b5_ "com/example/epoch/epoch/Accepted" "appended" "I" (.int (0 : Int32)) := D5_ (Or.inr (hw _ (List.mem_of_getElem? (i := 10) rfl))) (ty := .int) (by decide)
  have F5__lastSequence : Fld Z h5_ b5_ "com/example/epoch/epoch/Accepted" "lastSequence" "J" (.long (0 : Int64)) := D5_ (Or.inr (hw _ (List.mem_of_getElem? (i := 12) rfl))) (ty := .long) (by decide)
  refine own_fin st5_ ?_
  show own_Fin pP eE below _ (T5_.setTop (mkF mM 64 #[.val (.int p1), .val (.long q2), .second, .val (.int p3), .val (.long q4), .second, .val (.int p5), .val (.int s1_), .val (.int s2_), .val (.int kd), .val (.int a2), .val (.long l2), .second, .unset, .unset, .unset] [(.ref b5_)]))
  refine own_fin (b := T5_.setTop (mkF mM 67 #[.val (.int p1), .val (.long q2), .second, .val (.int p3), .val (.long q4), .second, .val (.int p5), .val (.int s1_), .val (.int s2_), .val (.int kd), .val (.int a2), .val (.long l2), .second, .unset, .unset, .unset] [(.long q2), (.int p1), (.ref b5_), (.ref b5_)])) (fun tT kK => ?_) ?_
  · show Steps pP.tables eE below (T5_.setTop (mkF mM 64 #[.val (.int p1), .val (.long q2), .second, .val (.int p3), .val (.long q4), .second, .val (.int p5), .val (.int s1_), .val (.int s2_), .val (.int kd), .val (.int a2), .val (.long l2), .second, .unset, .unset, .unset] [(.ref b5_)])) tT
    refine XS.dup X5_.here hx rfl (Jvm.hb hby at_64) rfl rfl ?_
    show Steps pP.tables eE below (T5_.setTop (mkF mM 65 #[.val (.int p1), .val (.long q2), .second, .val (.int p3), .val (.long q4), .second, .val (.int p5), .val (.int s1_), .val (.int s2_), .val (.int kd), .val (.int a2), .val (.long l2), .second, .unset, .unset, .unset] [(.ref b5_), (.ref b5_)])) tT
    refine XS.iloadN X5_.here hx rfl (Jvm.hb hby at_65) rfl ?_
    show Steps pP.tables eE below (T5_.setTop (mkF mM 66 #[.val (.int p1), .val (.long q2), .second, .val (.int p3), .val (.long q4), .second, .val (.int p5), .val (.int s1_), .val (.int s2_), .val (.int kd), .val (.int a2), .val (.long l2), .second, .unset, .unset, .unset] [(.int p1), (.ref b5_), (.ref b5_)])) tT
    refine XS.lloadN X5_.here hx rfl (Jvm.hb hby at_66) rfl ?_
    show Steps pP.tables eE below (T5_.setTop (mkF mM 67 #[.val (.int p1), .val (.long q2), .second, .val (.int p3), .val (.long q4), .second, .val (.int p5), .val (.int s1_), .val (.int s2_), .val (.int kd), .val (.int a2), .val (.long l2), .second, .unset, .unset, .unset] [(.long q2), (.int p1), (.ref b5_), (.ref b5_)])) tT
    exact kK
  obtain ⟨_, _, ⟨T7_, L7_, k7_, n7_⟩, -, X7_, ⟨Lc7_, hQ7_, l7_, y7_, z7_⟩, st7_⟩ := X5_.specialBack hx (y := (⟨"com/example/epoch/epoch/Accepted", "<init>", "(IJ)V"⟩ : MethodName)) rfl hown (mvT hZ (hw _ (List.mem_of_getElem? (i := 3) rfl))) (mvT hZ (hw _ (List.mem_of_getElem? (i := 4) rfl))) (mvT hZ (hw _ (List.mem_of_getElem? (i := 5) rfl))) (by decide) (backOf (W := 1) (rm_acc lL Z a0 hw [] b5_ p1 q2 h5_ n0 (Nat.le_trans Z0 K5_.1) A5_ F5__appended F5__lastSequence ge_b5_) hZ (hw _ (List.mem_of_getElem? (i := 5) rfl)) (hw _ (List.mem_of_getElem? (i := 2) rfl)) (by decide) (by decide)) (g := (mkF mM 67 #[.val (.int p1), .val (.long q2), .second, .val (.int p3), .val (.long q4), .second, .val (.int p5), .val (.int s1_), .val (.int s2_), .val (.int kd), .val (.int a2), .val (.long l2), .second, .unset, .unset, .unset] [(.long q2), (.int p1), (.ref b5_), (.ref b5_)])) rfl (by rw [hml]; rfl) (Steps.refl _) (a := b5_) (argsL := [(.int p1), (.long q2)]) (rest := [(.ref b5_)]) (lenOf own_pd2 rfl) rfl (by show 2 * 0 + _ ≤ _; exact Nat.le_of_eq rfl) (Jvm.hb hby at_67) (fun _ _ => ⟨rfl, e5_, (by decide : 1 + 0 ≤ _), (by decide : 2 + 0 ≤ _)⟩)
  dsimp only [Pt.U, Pt.locs, Pt.cells, Pt.slots] at X7_ l7_ y7_ z7_ st7_ hQ7_
  subst l7_ y7_ z7_
  obtain ⟨rfl, N7_q, p7__0, p7__1, p7__2, p7__3⟩ := hQ7_
  have N7_ := Fr.app N0 N7_q
  have fc8_ := fc6_.keep p7__0 (allS ge_b5_ all0)
  have fc9_ := A5_.keep p7__0
  have K7_ := K5_.trans p7__0 (allS (Or.inr sz_b5_) all0)
  refine own_fin (fun tT kK => st7_.trans kK) ?_
  show own_Fin pP eE below _ (T7_.setTop (mkF mM 70 #[.val (.int p1), .val (.long q2), .second, .val (.int p3), .val (.long q4), .second, .val (.int p5), .val (.int s1_), .val (.int s2_), .val (.int kd), .val (.int a2), .val (.long l2), .second, .unset, .unset, .unset] [(.ref b5_)]))
  refine own_fin (b := T7_.setTop (mkF mM 74 #[.val (.int p1), .val (.long q2), .second, .val (.int p3), .val (.long q4), .second, .val (.int p5), .val (.int s1_), .val (.int s2_), .val (.int kd), .val (.int a2), .val (.long l2), .second, .val (.ref b5_), .unset, .unset] [(.int kd)])) (fun tT kK => ?_) ?_
  · show Steps pP.tables eE below (T7_.setTop (mkF mM 70 #[.val (.int p1), .val (.long q2), .second, .val (.int p3), .val (.long q4), .second, .val (.int p5), .val (.int s1_), .val (.int s2_), .val (.int kd), .val (.int a2), .val (.long l2), .second, .unset, .unset, .unset] [(.ref b5_)])) tT
    refine XS.astore X7_.here hx rfl (Jvm.hb hby at_70) rfl rfl (l' := #[.val (.int p1), .val (.long q2), .second, .val (.int p3), .val (.long q4), .second, .val (.int p5), .val (.int s1_), .val (.int s2_), .val (.int kd), .val (.int a2), .val (.long l2), .second, .val (.ref b5_), .unset, .unset]) rfl ?_
    show Steps pP.tables eE below (T7_.setTop (mkF mM 72 #[.val (.int p1), .val (.long q2), .second, .val (.int p3), .val (.long q4), .second, .val (.int p5), .val (.int s1_), .val (.int s2_), .val (.int kd), .val (.int a2), .val (.long l2), .second, .val (.ref b5_), .unset, .unset] [])) tT
    refine XS.iload X7_.here hx rfl (Jvm.hb hby at_72) rfl ?_
    show Steps pP.tables eE below (T7_.setTop (mkF mM 74 #[.val (.int p1), .val (.long q2), .second, .val (.int p3), .val (.long q4), .second, .val (.int p5), .val (.int s1_), .val (.int s2_), .val (.int kd), .val (.int a2), .val (.long l2), .second, .val (.ref b5_), .unset, .unset] [(.int kd)])) tT
    exact kK
  by_cases hc74_10_ : kd = (0 : Int32)
  · refine own_fin (b := T7_.setTop (mkF mM 77 #[.val (.int p1), .val (.long q2), .second, .val (.int p3), .val (.long q4), .second, .val (.int p5), .val (.int s1_), .val (.int s2_), .val (.int kd), .val (.int a2), .val (.long l2), .second, .val (.ref b5_), .unset, .unset] [])) (fun tT kK => ?_) ?_
    · show Steps pP.tables eE below (T7_.setTop (mkF mM 74 #[.val (.int p1), .val (.long q2), .second, .val (.int p3), .val (.long q4), .second, .val (.int p5), .val (.int s1_), .val (.int s2_), .val (.int kd), .val (.int a2), .val (.long l2), .second, .val (.ref b5_), .unset, .unset] [(.int kd)])) tT
      refine XS.ifNo X7_.here hx rfl (Jvm.hb hby at_74) rfl ((if0 _ _).trans (teq (hc74_10_ : kd = (0 : Int32))).2) ?_
      show Steps pP.tables eE below (T7_.setTop (mkF mM 77 #[.val (.int p1), .val (.long q2), .second, .val (.int p3), .val (.long q4), .second, .val (.int p5), .val (.int s1_), .val (.int s2_), .val (.int kd), .val (.int a2), .val (.long l2), .second, .val (.ref b5_), .unset, .unset] [])) tT
      exact kK
    obtain ⟨T11_, h11_, X11_, e11_, E11_, A11_, D11_, -, st11_⟩ := newO X7_ hx hZ hown (hw _ (List.mem_of_getElem? (i := 0) rfl)) (hw _ (List.mem_of_getElem? (i := 1) rfl)) (hw _ (List.mem_of_getElem? (i := 2) rfl)) rfl (g := (mkF mM 77 #[.val (.int p1), .val (.long q2), .second, .val (.int p3), .val (.long q4), .second, .val (.int p5), .val (.int s1_), .val (.int s2_), .val (.int kd), .val (.int a2), .val (.long l2), .second, .val (.ref b5_), .unset, .unset] [])) rfl (Jvm.hb hby at_77) (by decide) (by decide)
    obtain ⟨b11_, g11_⟩ : ∃ z, z = T7_.heap.size := ⟨_, rfl⟩
    rw [← g11_] at A11_ D11_ st11_
    have sz_b11_ : h0.size ≤ b11_ := Nat.le_trans K7_.1 (Nat.le_of_eq g11_.symm)
    have ge_b11_ : n0 ≤ b11_ := Nat.le_trans Z0 sz_b11_
    have ne12_ : b5_ ≠ b11_ := Nat.ne_of_lt (Nat.lt_of_lt_of_le p7__1.lt (Nat.le_of_eq g11_.symm))
    have fc13_ := fc8_.ext E11_
    have fc14_ := p7__1.ext E11_
    have fc15_ := p7__2.ext E11_
    have fc16_ := p7__3.ext E11_
    have K11_ := K7_.ext E11_
    have F11__appended : Fld Z h11_ b11_ "com/example/epoch/epoch/Accepted" "appended" "I" (.int (0 : Int32)) := D11_ (Or.inr (hw _ (List.mem_of_getElem? (i := 10) rfl))) (ty := .int) (by decide)
    have F11__lastSequence : Fld Z h11_ b11_ "com/example/epoch/epoch/Accepted" "lastSequence" "J" (.long (0 : Int64)) := D11_ (Or.inr (hw _ (List.mem_of_getElem? (i := 12) rfl))) (ty := .long) (by decide)
    refine own_fin st11_ ?_
    show own_Fin pP eE below _ (T11_.setTop (mkF mM 80 #[.val (.int p1), .val (.long q2), .second, .val (.int p3), .val (.long q4), .second, .val (.int p5), .val (.int s1_), .val (.int s2_), .val (.int kd), .val (.int a2), .val (.long l2), .second, .val (.ref b5_), .unset, .unset] [(.ref b11_)]))
    refine own_fin (b := T11_.setTop (mkF mM 85 #[.val (.int p1), .val (.long q2), .second, .val (.int p3), .val (.long q4), .second, .val (.int p5), .val (.int s1_), .val (.int s2_), .val (.int kd), .val (.int a2), .val (.long l2), .second, .val (.ref b5_), .unset, .unset] [(.long l2), (.int a2), (.ref b11_), (.ref b11_)])) (fun tT kK => ?_) ?_
    · show Steps pP.tables eE below (T11_.setTop (mkF mM 80 #[.val (.int p1), .val (.long q2), .second, .val (.int p3), .val (.long q4), .second, .val (.int p5), .val (.int s1_), .val (.int s2_), .val (.int kd), .val (.int a2), .val (.long l2), .second, .val (.ref b5_), .unset, .unset] [(.ref b11_)])) tT
      refine XS.dup X11_.here hx rfl (Jvm.hb hby at_80) rfl rfl ?_
      show Steps pP.tables eE below (T11_.setTop (mkF mM 81 #[.val (.int p1), .val (.long q2), .second, .val (.int p3), .val (.long q4), .second, .val (.int p5), .val (.int s1_), .val (.int s2_), .val (.int kd), .val (.int a2), .val (.long l2), .second, .val (.ref b5_), .unset, .unset] [(.ref b11_), (.ref b11_)])) tT
      refine XS.iload X11_.here hx rfl (Jvm.hb hby at_81) rfl ?_
      show Steps pP.tables eE below (T11_.setTop (mkF mM 83 #[.val (.int p1), .val (.long q2), .second, .val (.int p3), .val (.long q4), .second, .val (.int p5), .val (.int s1_), .val (.int s2_), .val (.int kd), .val (.int a2), .val (.long l2), .second, .val (.ref b5_), .unset, .unset] [(.int a2), (.ref b11_), (.ref b11_)])) tT
      refine XS.lload X11_.here hx rfl (Jvm.hb hby at_83) rfl ?_
      show Steps pP.tables eE below (T11_.setTop (mkF mM 85 #[.val (.int p1), .val (.long q2), .second, .val (.int p3), .val (.long q4), .second, .val (.int p5), .val (.int s1_), .val (.int s2_), .val (.int kd), .val (.int a2), .val (.long l2), .second, .val (.ref b5_), .unset, .unset] [(.long l2), (.int a2), (.ref b11_), (.ref b11_)])) tT
      exact kK
    obtain ⟨_, _, ⟨T17_, L17_, k17_, n17_⟩, -, X17_, ⟨Lc17_, hQ17_, l17_, y17_, z17_⟩, st17_⟩ := X11_.specialBack hx (y := (⟨"com/example/epoch/epoch/Accepted", "<init>", "(IJ)V"⟩ : MethodName)) rfl hown (mvT hZ (hw _ (List.mem_of_getElem? (i := 3) rfl))) (mvT hZ (hw _ (List.mem_of_getElem? (i := 4) rfl))) (mvT hZ (hw _ (List.mem_of_getElem? (i := 5) rfl))) (by decide) (backOf (W := 1) (rm_acc lL Z a0 hw [] b11_ a2 l2 h11_ n0 (Nat.le_trans Z0 K11_.1) A11_ F11__appended F11__lastSequence ge_b11_) hZ (hw _ (List.mem_of_getElem? (i := 5) rfl)) (hw _ (List.mem_of_getElem? (i := 2) rfl)) (by decide) (by decide)) (g := (mkF mM 85 #[.val (.int p1), .val (.long q2), .second, .val (.int p3), .val (.long q4), .second, .val (.int p5), .val (.int s1_), .val (.int s2_), .val (.int kd), .val (.int a2), .val (.long l2), .second, .val (.ref b5_), .unset, .unset] [(.long l2), (.int a2), (.ref b11_), (.ref b11_)])) rfl (by rw [hml]; rfl) (Steps.refl _) (a := b11_) (argsL := [(.int a2), (.long l2)]) (rest := [(.ref b11_)]) (lenOf own_pd2 rfl) rfl (by show 2 * 0 + _ ≤ _; exact Nat.le_of_eq rfl) (Jvm.hb hby at_85) (fun _ _ => ⟨rfl, e11_, (by decide : 2 + 0 ≤ _), (by decide : 4 + 0 ≤ _)⟩)
    dsimp only [Pt.U, Pt.locs, Pt.cells, Pt.slots] at X17_ l17_ y17_ z17_ st17_ hQ17_
    subst l17_ y17_ z17_
    obtain ⟨rfl, N17_q, p17__0, p17__1, p17__2, p17__3⟩ := hQ17_
    have N17_ := Fr.app N7_ N17_q
    have fc18_ := fc13_.keep p17__0 (allS ge_b11_ all0)
    have fc19_ := fc14_.keep p17__0
    have fc20_ := fc15_.keep p17__0 (ninS ne12_ nin0)
    have fc21_ := fc16_.keep p17__0 (ninS ne12_ nin0)
    have fc22_ := A11_.keep p17__0
    have K17_ := K11_.trans p17__0 (allS (Or.inr sz_b11_) all0)
    refine own_fin (fun tT kK => st17_.trans kK) ?_
    show own_Fin pP eE below _ (T17_.setTop (mkF mM 88 #[.val (.int p1), .val (.long q2), .second, .val (.int p3), .val (.long q4), .second, .val (.int p5), .val (.int s1_), .val (.int s2_), .val (.int kd), .val (.int a2), .val (.long l2), .second, .val (.ref b5_), .unset, .unset] [(.ref b11_)]))
    refine own_fin (b := T17_.setTop (mkF mM 93 #[.val (.int p1), .val (.long q2), .second, .val (.int p3), .val (.long q4), .second, .val (.int p5), .val (.int s1_), .val (.int s2_), .val (.int kd), .val (.int a2), .val (.long l2), .second, .val (.ref b5_), .val (.ref b11_), .unset] [(.int a2), (.int p1)])) (fun tT kK => ?_) ?_
    · show Steps pP.tables eE below (T17_.setTop (mkF mM 88 #[.val (.int p1), .val (.long q2), .second, .val (.int p3), .val (.long q4), .second, .val (.int p5), .val (.int s1_), .val (.int s2_), .val (.int kd), .val (.int a2), .val (.long l2), .second, .val (.ref b5_), .unset, .unset] [(.ref b11_)])) tT
      refine XS.astore X17_.here hx rfl (Jvm.hb hby at_88) rfl rfl (l' := #[.val (.int p1), .val (.long q2), .second, .val (.int p3), .val (.long q4), .second, .val (.int p5), .val (.int s1_), .val (.int s2_), .val (.int kd), .val (.int a2), .val (.long l2), .second, .val (.ref b5_), .val (.ref b11_), .unset]) rfl ?_
      show Steps pP.tables eE below (T17_.setTop (mkF mM 90 #[.val (.int p1), .val (.long q2), .second, .val (.int p3), .val (.long q4), .second, .val (.int p5), .val (.int s1_), .val (.int s2_), .val (.int kd), .val (.int a2), .val (.long l2), .second, .val (.ref b5_), .val (.ref b11_), .unset] [])) tT
      refine XS.iloadN X17_.here hx rfl (Jvm.hb hby at_90) rfl ?_
      show Steps pP.tables eE below (T17_.setTop (mkF mM 91 #[.val (.int p1), .val (.long q2), .second, .val (.int p3), .val (.long q4), .second, .val (.int p5), .val (.int s1_), .val (.int s2_), .val (.int kd), .val (.int a2), .val (.long l2), .second, .val (.ref b5_), .val (.ref b11_), .unset] [(.int p1)])) tT
      refine XS.iload X17_.here hx rfl (Jvm.hb hby at_91) rfl ?_
      show Steps pP.tables eE below (T17_.setTop (mkF mM 93 #[.val (.int p1), .val (.long q2), .second, .val (.int p3), .val (.long q4), .second, .val (.int p5), .val (.int s1_), .val (.int s2_), .val (.int kd), .val (.int a2), .val (.long l2), .second, .val (.ref b5_), .val (.ref b11_), .unset] [(.int a2), (.int p1)])) tT
      exact kK
    obtain ⟨ex, hex, st23_⟩ : ∃ ex : Int32, (ex = (if p1 = a2 then (if q2 = l2 then (1 : Int32) else (0 : Int32)) else (0 : Int32))) ∧ ∀ tT, Steps pP.tables eE below (T17_.setTop (mkF mM 108 #[.val (.int p1), .val (.long q2), .second, .val (.int p3), .val (.long q4), .second, .val (.int p5), .val (.int s1_), .val (.int s2_), .val (.int kd), .val (.int a2), .val (.long l2), .second, .val (.ref b5_), .val (.ref b11_), .unset] [(.int ex)])) tT → Steps pP.tables eE below (T17_.setTop (mkF mM 93 #[.val (.int p1), .val (.long q2), .second, .val (.int p3), .val (.long q4), .second, .val (.int p5), .val (.int s1_), .val (.int s2_), .val (.int kd), .val (.int a2), .val (.long l2), .second, .val (.ref b5_), .val (.ref b11_), .unset] [(.int a2), (.int p1)])) tT := by
      by_cases hm1 : p1 = a2
      · by_cases hm2 : q2 = l2
        · refine ⟨(1 : Int32), by rw [if_pos hm1, if_pos hm2], fun tT kK => ?_⟩
          refine XS.icmpNo X17_.here hx rfl (Jvm.hb hby at_93) rfl (teq (hm1 : p1 = a2)).2 ?_
          show Steps pP.tables eE below (T17_.setTop (mkF mM 96 #[.val (.int p1), .val (.long q2), .second, .val (.int p3), .val (.long q4), .second, .val (.int p5), .val (.int s1_), .val (.int s2_), .val (.int kd), .val (.int a2), .val (.long l2), .second, .val (.ref b5_), .val (.ref b11_), .unset] [])) tT
          refine XS.lloadN X17_.here hx rfl (Jvm.hb hby at_96) rfl ?_
          show Steps pP.tables eE below (T17_.setTop (mkF mM 97 #[.val (.int p1), .val (.long q2), .second, .val (.int p3), .val (.long q4), .second, .val (.int p5), .val (.int s1_), .val (.int s2_), .val (.int kd), .val (.int a2), .val (.long l2), .second, .val (.ref b5_), .val (.ref b11_), .unset] [(.long q2)])) tT
          refine XS.lload X17_.here hx rfl (Jvm.hb hby at_97) rfl ?_
          show Steps pP.tables eE below (T17_.setTop (mkF mM 99 #[.val (.int p1), .val (.long q2), .second, .val (.int p3), .val (.long q4), .second, .val (.int p5), .val (.int s1_), .val (.int s2_), .val (.int kd), .val (.int a2), .val (.long l2), .second, .val (.ref b5_), .val (.ref b11_), .unset] [(.long l2), (.long q2)])) tT
          refine XS.lcmp X17_.here hx rfl (Jvm.hb hby at_99) rfl ?_
          show Steps pP.tables eE below (T17_.setTop (mkF mM 100 #[.val (.int p1), .val (.long q2), .second, .val (.int p3), .val (.long q4), .second, .val (.int p5), .val (.int s1_), .val (.int s2_), .val (.int kd), .val (.int a2), .val (.long l2), .second, .val (.ref b5_), .val (.ref b11_), .unset] [(.int (lcmpW q2 l2))])) tT
          refine XS.ifNo X17_.here hx rfl (Jvm.hb hby at_100) rfl ((if0 _ _).trans (teq ((lw_eq q2 l2).mpr (hm2 : q2 = l2))).2) ?_
          show Steps pP.tables eE below (T17_.setTop (mkF mM 103 #[.val (.int p1), .val (.long q2), .second, .val (.int p3), .val (.long q4), .second, .val (.int p5), .val (.int s1_), .val (.int s2_), .val (.int kd), .val (.int a2), .val (.long l2), .second, .val (.ref b5_), .val (.ref b11_), .unset] [])) tT
          refine XS.iconst X17_.here hx rfl (Jvm.hb hby at_103) ?_
          show Steps pP.tables eE below (T17_.setTop (mkF mM 104 #[.val (.int p1), .val (.long q2), .second, .val (.int p3), .val (.long q4), .second, .val (.int p5), .val (.int s1_), .val (.int s2_), .val (.int kd), .val (.int a2), .val (.long l2), .second, .val (.ref b5_), .val (.ref b11_), .unset] [(.int (1 : Int32))])) tT
          refine XS.goto X17_.here hx rfl (pc0 := 104) (pc' := 108) rfl (Jvm.hb hby at_104) (by decide) (by decide) ?_
          show Steps pP.tables eE below (T17_.setTop (mkF mM 108 #[.val (.int p1), .val (.long q2), .second, .val (.int p3), .val (.long q4), .second, .val (.int p5), .val (.int s1_), .val (.int s2_), .val (.int kd), .val (.int a2), .val (.long l2), .second, .val (.ref b5_), .val (.ref b11_), .unset] [(.int (1 : Int32))])) tT
          exact kK
        · refine ⟨(0 : Int32), by rw [if_pos hm1, if_neg hm2], fun tT kK => ?_⟩
          refine XS.icmpNo X17_.here hx rfl (Jvm.hb hby at_93) rfl (teq (hm1 : p1 = a2)).2 ?_
          show Steps pP.tables eE below (T17_.setTop (mkF mM 96 #[.val (.int p1), .val (.long q2), .second, .val (.int p3), .val (.long q4), .second, .val (.int p5), .val (.int s1_), .val (.int s2_), .val (.int kd), .val (.int a2), .val (.long l2), .second, .val (.ref b5_), .val (.ref b11_), .unset] [])) tT
          refine XS.lloadN X17_.here hx rfl (Jvm.hb hby at_96) rfl ?_
          show Steps pP.tables eE below (T17_.setTop (mkF mM 97 #[.val (.int p1), .val (.long q2), .second, .val (.int p3), .val (.long q4), .second, .val (.int p5), .val (.int s1_), .val (.int s2_), .val (.int kd), .val (.int a2), .val (.long l2), .second, .val (.ref b5_), .val (.ref b11_), .unset] [(.long q2)])) tT
          refine XS.lload X17_.here hx rfl (Jvm.hb hby at_97) rfl ?_
          show Steps pP.tables eE below (T17_.setTop (mkF mM 99 #[.val (.int p1), .val (.long q2), .second, .val (.int p3), .val (.long q4), .second, .val (.int p5), .val (.int s1_), .val (.int s2_), .val (.int kd), .val (.int a2), .val (.long l2), .second, .val (.ref b5_), .val (.ref b11_), .unset] [(.long l2), (.long q2)])) tT
          refine XS.lcmp X17_.here hx rfl (Jvm.hb hby at_99) rfl ?_
          show Steps pP.tables eE below (T17_.setTop (mkF mM 100 #[.val (.int p1), .val (.long q2), .second, .val (.int p3), .val (.long q4), .second, .val (.int p5), .val (.int s1_), .val (.int s2_), .val (.int kd), .val (.int a2), .val (.long l2), .second, .val (.ref b5_), .val (.ref b11_), .unset] [(.int (lcmpW q2 l2))])) tT
          refine XS.ifYes X17_.here hx rfl (pc0 := 100) (pc' := 107) rfl (Jvm.hb hby at_100) rfl ((if0 _ _).trans (feq (mt (lw_eq q2 l2).mp (hm2 : ¬ (q2 = l2)))).2) (by decide) (by decide) ?_
          show Steps pP.tables eE below (T17_.setTop (mkF mM 107 #[.val (.int p1), .val (.long q2), .second, .val (.int p3), .val (.long q4), .second, .val (.int p5), .val (.int s1_), .val (.int s2_), .val (.int kd), .val (.int a2), .val (.long l2), .second, .val (.ref b5_), .val (.ref b11_), .unset] [])) tT
          refine XS.iconst X17_.here hx rfl (Jvm.hb hby at_107) ?_
          show Steps pP.tables eE below (T17_.setTop (mkF mM 108 #[.val (.int p1), .val (.long q2), .second, .val (.int p3), .val (.long q4), .second, .val (.int p5), .val (.int s1_), .val (.int s2_), .val (.int kd), .val (.int a2), .val (.long l2), .second, .val (.ref b5_), .val (.ref b11_), .unset] [(.int (0 : Int32))])) tT
          exact kK
      · refine ⟨(0 : Int32), by rw [if_neg hm1], fun tT kK => ?_⟩
        refine XS.icmpYes X17_.here hx rfl (pc0 := 93) (pc' := 107) rfl (Jvm.hb hby at_93) rfl (feq (hm1 : ¬ (p1 = a2))).2 (by decide) (by decide) ?_
        show Steps pP.tables eE below (T17_.setTop (mkF mM 107 #[.val (.int p1), .val (.long q2), .second, .val (.int p3), .val (.long q4), .second, .val (.int p5), .val (.int s1_), .val (.int s2_), .val (.int kd), .val (.int a2), .val (.long l2), .second, .val (.ref b5_), .val (.ref b11_), .unset] [])) tT
        refine XS.iconst X17_.here hx rfl (Jvm.hb hby at_107) ?_
        show Steps pP.tables eE below (T17_.setTop (mkF mM 108 #[.val (.int p1), .val (.long q2), .second, .val (.int p3), .val (.long q4), .second, .val (.int p5), .val (.int s1_), .val (.int s2_), .val (.int kd), .val (.int a2), .val (.long l2), .second, .val (.ref b5_), .val (.ref b11_), .unset] [(.int (0 : Int32))])) tT
        exact kK
    refine own_fin st23_ ?_
    show own_Fin pP eE below _ (T17_.setTop (mkF mM 108 #[.val (.int p1), .val (.long q2), .second, .val (.int p3), .val (.long q4), .second, .val (.int p5), .val (.int s1_), .val (.int s2_), .val (.int kd), .val (.int a2), .val (.long l2), .second, .val (.ref b5_), .val (.ref b11_), .unset] [(.int ex)]))
    refine own_fin (b := T17_.setTop (mkF mM 166 #[.val (.int p1), .val (.long q2), .second, .val (.int p3), .val (.long q4), .second, .val (.int p5), .val (.int s1_), .val (.int s2_), .val (.int kd), .val (.int a2), .val (.long l2), .second, .val (.ref b5_), .val (.ref b11_), .val (.int ex)] [(.ref b11_), (.ref b5_)])) (fun tT kK => ?_) ?_
    · show Steps pP.tables eE below (T17_.setTop (mkF mM 108 #[.val (.int p1), .val (.long q2), .second, .val (.int p3), .val (.long q4), .second, .val (.int p5), .val (.int s1_), .val (.int s2_), .val (.int kd), .val (.int a2), .val (.long l2), .second, .val (.ref b5_), .val (.ref b11_), .unset] [(.int ex)])) tT
      refine XS.istore X17_.here hx rfl (Jvm.hb hby at_108) rfl (l' := #[.val (.int p1), .val (.long q2), .second, .val (.int p3), .val (.long q4), .second, .val (.int p5), .val (.int s1_), .val (.int s2_), .val (.int kd), .val (.int a2), .val (.long l2), .second, .val (.ref b5_), .val (.ref b11_), .val (.int ex)]) rfl ?_
      show Steps pP.tables eE below (T17_.setTop (mkF mM 110 #[.val (.int p1), .val (.long q2), .second, .val (.int p3), .val (.long q4), .second, .val (.int p5), .val (.int s1_), .val (.int s2_), .val (.int kd), .val (.int a2), .val (.long l2), .second, .val (.ref b5_), .val (.ref b11_), .val (.int ex)] [])) tT
      refine XS.goto X17_.here hx rfl (pc0 := 110) (pc' := 162) rfl (Jvm.hb hby at_110) (by decide) (by decide) ?_
      show Steps pP.tables eE below (T17_.setTop (mkF mM 162 #[.val (.int p1), .val (.long q2), .second, .val (.int p3), .val (.long q4), .second, .val (.int p5), .val (.int s1_), .val (.int s2_), .val (.int kd), .val (.int a2), .val (.long l2), .second, .val (.ref b5_), .val (.ref b11_), .val (.int ex)] [])) tT
      refine XS.aload X17_.here hx rfl (Jvm.hb hby at_162) rfl rfl ?_
      show Steps pP.tables eE below (T17_.setTop (mkF mM 164 #[.val (.int p1), .val (.long q2), .second, .val (.int p3), .val (.long q4), .second, .val (.int p5), .val (.int s1_), .val (.int s2_), .val (.int kd), .val (.int a2), .val (.long l2), .second, .val (.ref b5_), .val (.ref b11_), .val (.int ex)] [(.ref b5_)])) tT
      refine XS.aload X17_.here hx rfl (Jvm.hb hby at_164) rfl rfl ?_
      show Steps pP.tables eE below (T17_.setTop (mkF mM 166 #[.val (.int p1), .val (.long q2), .second, .val (.int p3), .val (.long q4), .second, .val (.int p5), .val (.int s1_), .val (.int s2_), .val (.int kd), .val (.int a2), .val (.long l2), .second, .val (.ref b5_), .val (.ref b11_), .val (.int ex)] [(.ref b11_), (.ref b5_)])) tT
      exact kK
    obtain ⟨cq24_, kq24_, q24_a, q24_b, q24_c⟩ := isOf hZ rfl fc19_
    obtain ⟨_, _, ⟨T24_, L24_, k24_, n24_⟩, -, X24_, ⟨Lc24_, hQ24_, l24_, y24_, z24_⟩, st24_⟩ := X17_.virtualBack hx (y := (⟨"com/example/epoch/epoch/Accepted", "equals", "(Ljava/lang/Object;)Z"⟩ : MethodName)) (z := (⟨"com/example/epoch/epoch/Accepted", "equals", "(Ljava/lang/Object;)Z"⟩ : MethodName)) hown (mvT hZ (hw _ (List.mem_of_getElem? (i := 13) rfl))) (mvT hZ (hw _ (List.mem_of_getElem? (i := 14) rfl))) (notFace_of_selects (args := #[]) (mvT hZ (hw _ (List.mem_of_getElem? (i := 16) rfl)))) (mvT hZ (hw _ (List.mem_of_getElem? (i := 16) rfl))) (mvT hZ (hw _ (List.mem_of_getElem? (i := 15) rfl))) (by decide) (backOf (W := 0) (rm_eq lL Z a0 hw [] b5_ b11_ p1 q2 a2 l2 T17_.heap n0 (Nat.le_trans Z0 K17_.1) p17__1 fc20_ fc21_ p17__2 p17__3) hZ (hw _ (List.mem_of_getElem? (i := 17) rfl)) (hw _ (List.mem_of_getElem? (i := 2) rfl)) (by decide) (by decide)) q24_a q24_c (g := (mkF mM 166 #[.val (.int p1), .val (.long q2), .second, .val (.int p3), .val (.long q4), .second, .val (.int p5), .val (.int s1_), .val (.int s2_), .val (.int kd), .val (.int a2), .val (.long l2), .second, .val (.ref b5_), .val (.ref b11_), .val (.int ex)] [(.ref b11_), (.ref b5_)])) rfl (by rw [hml]; rfl) (Steps.refl _) (argsL := [(.ref b11_)]) (rest := []) (lenOf own_pd3 rfl) rfl (by show 2 * 0 + _ ≤ _; exact Nat.le_of_eq rfl) (Jvm.hb hby at_166) (fun _ _ => ⟨rfl, rfl, (by decide : 2 + 0 ≤ _), (by decide : 4 + 0 ≤ _)⟩)
    dsimp only [Pt.U, Pt.locs, Pt.cells, Pt.slots] at X24_ l24_ y24_ z24_ st24_ hQ24_
    subst l24_ y24_ z24_
    obtain ⟨rfl, N24_q, p24__0⟩ := hQ24_
    have N24_ := Fr.app N17_ N24_q
    refine own_fin (fun tT kK => st24_.trans kK) ?_
    show own_Fin pP eE below _ (T24_.setTop (mkF mM 169 #[.val (.int p1), .val (.long q2), .second, .val (.int p3), .val (.long q4), .second, .val (.int p5), .val (.int s1_), .val (.int s2_), .val (.int kd), .val (.int a2), .val (.long l2), .second, .val (.ref b5_), .val (.ref b11_), .val (.int ex)] [(.int (if a2 = p1 then (if l2 = q2 then (1 : Int32) else (0 : Int32)) else (0 : Int32)))]))
    refine own_fin (b := T24_.setTop (mkF mM 178 #[.val (.int p1), .val (.long q2), .second, .val (.int p3), .val (.long q4), .second, .val (.int p5), .val (.int s1_), .val (.int s2_), .val (.int kd), .val (.int a2), .val (.long l2), .second, .val (.ref b5_), .val (.ref b11_), .val (.int ex)] [(.ref b5_), (.ref b5_)])) (fun tT kK => ?_) ?_
    · show Steps pP.tables eE below (T24_.setTop (mkF mM 169 #[.val (.int p1), .val (.long q2), .second, .val (.int p3), .val (.long q4), .second, .val (.int p5), .val (.int s1_), .val (.int s2_), .val (.int kd), .val (.int a2), .val (.long l2), .second, .val (.ref b5_), .val (.ref b11_), .val (.int ex)] [(.int (if a2 = p1 then (if l2 = q2 then (1 : Int32) else (0 : Int32)) else (0 : Int32)))])) tT
      refine XS.iload X24_.here hx rfl (Jvm.hb hby at_169) rfl ?_
      show Steps pP.tables eE below (T24_.setTop (mkF mM 171 #[.val (.int p1), .val (.long q2), .second, .val (.int p3), .val (.long q4), .second, .val (.int p5), .val (.int s1_), .val (.int s2_), .val (.int kd), .val (.int a2), .val (.long l2), .second, .val (.ref b5_), .val (.ref b11_), .val (.int ex)] [(.int ex), (.int (if a2 = p1 then (if l2 = q2 then (1 : Int32) else (0 : Int32)) else (0 : Int32)))])) tT
      refine XS.icmpNo X24_.here hx rfl (Jvm.hb hby at_171) rfl (teq ((own_sym _ _ _ _).trans hex.symm : (if a2 = p1 then (if l2 = q2 then (1 : Int32) else (0 : Int32)) else (0 : Int32)) = ex)).2 ?_
      show Steps pP.tables eE below (T24_.setTop (mkF mM 174 #[.val (.int p1), .val (.long q2), .second, .val (.int p3), .val (.long q4), .second, .val (.int p5), .val (.int s1_), .val (.int s2_), .val (.int kd), .val (.int a2), .val (.long l2), .second, .val (.ref b5_), .val (.ref b11_), .val (.int ex)] [])) tT
      refine XS.aload X24_.here hx rfl (Jvm.hb hby at_174) rfl rfl ?_
      show Steps pP.tables eE below (T24_.setTop (mkF mM 176 #[.val (.int p1), .val (.long q2), .second, .val (.int p3), .val (.long q4), .second, .val (.int p5), .val (.int s1_), .val (.int s2_), .val (.int kd), .val (.int a2), .val (.long l2), .second, .val (.ref b5_), .val (.ref b11_), .val (.int ex)] [(.ref b5_)])) tT
      refine XS.aload X24_.here hx rfl (Jvm.hb hby at_176) rfl rfl ?_
      show Steps pP.tables eE below (T24_.setTop (mkF mM 178 #[.val (.int p1), .val (.long q2), .second, .val (.int p3), .val (.long q4), .second, .val (.int p5), .val (.int s1_), .val (.int s2_), .val (.int kd), .val (.int a2), .val (.long l2), .second, .val (.ref b5_), .val (.ref b11_), .val (.int ex)] [(.ref b5_), (.ref b5_)])) tT
      exact kK
    obtain ⟨cq25_, kq25_, q25_a, q25_b, q25_c⟩ := isOf hZ p24__0 fc19_
    obtain ⟨_, _, ⟨T25_, L25_, k25_, n25_⟩, -, X25_, ⟨Lc25_, hQ25_, l25_, y25_, z25_⟩, st25_⟩ := X24_.virtualBack hx (y := (⟨"com/example/epoch/epoch/Accepted", "equals", "(Ljava/lang/Object;)Z"⟩ : MethodName)) (z := (⟨"com/example/epoch/epoch/Accepted", "equals", "(Ljava/lang/Object;)Z"⟩ : MethodName)) hown (mvT hZ (hw _ (List.mem_of_getElem? (i := 13) rfl))) (mvT hZ (hw _ (List.mem_of_getElem? (i := 14) rfl))) (notFace_of_selects (args := #[]) (mvT hZ (hw _ (List.mem_of_getElem? (i := 16) rfl)))) (mvT hZ (hw _ (List.mem_of_getElem? (i := 16) rfl))) (mvT hZ (hw _ (List.mem_of_getElem? (i := 15) rfl))) (by decide) (backOf (W := 0) (rm_self lL Z a0 hw [] b5_ p1 q2 T17_.heap n0 (Nat.le_trans Z0 K17_.1) fc19_ fc20_ fc21_) hZ (hw _ (List.mem_of_getElem? (i := 17) rfl)) (hw _ (List.mem_of_getElem? (i := 2) rfl)) (by decide) (by decide)) q25_a q25_c (g := (mkF mM 178 #[.val (.int p1), .val (.long q2), .second, .val (.int p3), .val (.long q4), .second, .val (.int p5), .val (.int s1_), .val (.int s2_), .val (.int kd), .val (.int a2), .val (.long l2), .second, .val (.ref b5_), .val (.ref b11_), .val (.int ex)] [(.ref b5_), (.ref b5_)])) rfl (by rw [hml]; rfl) (Steps.refl _) (argsL := [(.ref b5_)]) (rest := []) (lenOf own_pd3 rfl) rfl (by show 2 * 0 + _ ≤ _; exact Nat.le_of_eq rfl) (Jvm.hb hby at_178) (fun _ _ => ⟨rfl, p24__0, (by decide : 2 + 0 ≤ _), (by decide : 4 + 0 ≤ _)⟩)
    dsimp only [Pt.U, Pt.locs, Pt.cells, Pt.slots] at X25_ l25_ y25_ z25_ st25_ hQ25_
    subst l25_ y25_ z25_
    obtain ⟨rfl, N25_q, p25__0⟩ := hQ25_
    have N25_ := Fr.app N24_ N25_q
    refine own_fin (fun tT kK => st25_.trans kK) ?_
    show own_Fin pP eE below _ (T25_.setTop (mkF mM 181 #[.val (.int p1), .val (.long q2), .second, .val (.int p3), .val (.long q4), .second, .val (.int p5), .val (.int s1_), .val (.int s2_), .val (.int kd), .val (.int a2), .val (.long l2), .second, .val (.ref b5_), .val (.ref b11_), .val (.int ex)] [(.int (1 : Int32))]))
    refine own_fin (b := T25_.setTop (mkF mM 189 #[.val (.int p1), .val (.long q2), .second, .val (.int p3), .val (.long q4), .second, .val (.int p5), .val (.int s1_), .val (.int s2_), .val (.int kd), .val (.int a2), .val (.long l2), .second, .val (.ref b5_), .val (.ref b11_), .val (.int ex)] [(.int (1 : Int32))])) (fun tT kK => ?_) ?_
    · show Steps pP.tables eE below (T25_.setTop (mkF mM 181 #[.val (.int p1), .val (.long q2), .second, .val (.int p3), .val (.long q4), .second, .val (.int p5), .val (.int s1_), .val (.int s2_), .val (.int kd), .val (.int a2), .val (.long l2), .second, .val (.ref b5_), .val (.ref b11_), .val (.int ex)] [(.int (1 : Int32))])) tT
      refine XS.ifNo X25_.here hx rfl (Jvm.hb hby at_181) rfl ((if0 _ _).trans (feq ((by decide) : ¬ ((1 : Int32) = (0 : Int32)))).1) ?_
      show Steps pP.tables eE below (T25_.setTop (mkF mM 184 #[.val (.int p1), .val (.long q2), .second, .val (.int p3), .val (.long q4), .second, .val (.int p5), .val (.int s1_), .val (.int s2_), .val (.int kd), .val (.int a2), .val (.long l2), .second, .val (.ref b5_), .val (.ref b11_), .val (.int ex)] [])) tT
      refine XS.iconst X25_.here hx rfl (Jvm.hb hby at_184) ?_
      show Steps pP.tables eE below (T25_.setTop (mkF mM 185 #[.val (.int p1), .val (.long q2), .second, .val (.int p3), .val (.long q4), .second, .val (.int p5), .val (.int s1_), .val (.int s2_), .val (.int kd), .val (.int a2), .val (.long l2), .second, .val (.ref b5_), .val (.ref b11_), .val (.int ex)] [(.int (1 : Int32))])) tT
      refine XS.goto X25_.here hx rfl (pc0 := 185) (pc' := 189) rfl (Jvm.hb hby at_185) (by decide) (by decide) ?_
      show Steps pP.tables eE below (T25_.setTop (mkF mM 189 #[.val (.int p1), .val (.long q2), .second, .val (.int p3), .val (.long q4), .second, .val (.int p5), .val (.int s1_), .val (.int s2_), .val (.int kd), .val (.int a2), .val (.long l2), .second, .val (.ref b5_), .val (.ref b11_), .val (.int ex)] [(.int (1 : Int32))])) tT
      exact kK
    obtain ⟨fs, hr, hrun, hended, hW, hsame⟩ := X25_.leave (v := some (.int (1 : Int32))) (fun h => by rw [Bd.returns] at h; cases h)
    refine ⟨_, _, ?_, hrun, hended, _, _, rfl, ?_, ⟨_, rfl⟩, hW, hsame.mono (by decide) (by decide)⟩
    · show Steps pP.tables eE below (T25_.setTop (mkF mM 189 #[.val (.int p1), .val (.long q2), .second, .val (.int p3), .val (.long q4), .second, .val (.int p5), .val (.int s1_), .val (.int s2_), .val (.int kd), .val (.int a2), .val (.long l2), .second, .val (.ref b5_), .val (.ref b11_), .val (.int ex)] [(.int (1 : Int32))])) _
      exact retN X25_ hx (t := .boolean) Bd.returns (by simp) (Jvm.hb hby at_189) hr
    · show Q_rm0 Z p1 q2 p3 q4 p5 ca cc h0 n0 _ T25_.heap _
      rw [p25__0]
      exact ⟨rfl, N25_⟩
  · refine own_fin (b := T7_.setTop (mkF mM 116 #[.val (.int p1), .val (.long q2), .second, .val (.int p3), .val (.long q4), .second, .val (.int p5), .val (.int s1_), .val (.int s2_), .val (.int kd), .val (.int a2), .val (.long l2), .second, .val (.ref b5_), .unset, .unset] [(.int (1 : Int32)), (.int kd)])) (fun tT kK => ?_) ?_
    · show Steps pP.tables eE below (T7_.setTop (mkF mM 74 #[.val (.int p1), .val (.long q2), .second, .val (.int p3), .val (.long q4), .second, .val (.int p5), .val (.int s1_), .val (.int s2_), .val (.int kd), .val (.int a2), .val (.long l2), .second, .val (.ref b5_), .unset, .unset] [(.int kd)])) tT
      refine XS.ifYes X7_.here hx rfl (pc0 := 74) (pc' := 113) rfl (Jvm.hb hby at_74) rfl ((if0 _ _).trans (feq (hc74_10_ : ¬ (kd = (0 : Int32)))).2) (by decide) (by decide) ?_
      show Steps pP.tables eE below (T7_.setTop (mkF mM 113 #[.val (.int p1), .val (.long q2), .second, .val (.int p3), .val (.long q4), .second, .val (.int p5), .val (.int s1_), .val (.int s2_), .val (.int kd), .val (.int a2), .val (.long l2), .second, .val (.ref b5_), .unset, .unset] [])) tT
      refine XS.iload X7_.here hx rfl (Jvm.hb hby at_113) rfl ?_
      show Steps pP.tables eE below (T7_.setTop (mkF mM 115 #[.val (.int p1), .val (.long q2), .second, .val (.int p3), .val (.long q4), .second, .val (.int p5), .val (.int s1_), .val (.int s2_), .val (.int kd), .val (.int a2), .val (.long l2), .second, .val (.ref b5_), .unset, .unset] [(.int kd)])) tT
      refine XS.iconst X7_.here hx rfl (Jvm.hb hby at_115) ?_
      show Steps pP.tables eE below (T7_.setTop (mkF mM 116 #[.val (.int p1), .val (.long q2), .second, .val (.int p3), .val (.long q4), .second, .val (.int p5), .val (.int s1_), .val (.int s2_), .val (.int kd), .val (.int a2), .val (.long l2), .second, .val (.ref b5_), .unset, .unset] [(.int (1 : Int32)), (.int kd)])) tT
      exact kK
    by_cases hc116_26_ : kd = (1 : Int32)
    · refine own_fin (b := T7_.setTop (mkF mM 166 #[.val (.int p1), .val (.long q2), .second, .val (.int p3), .val (.long q4), .second, .val (.int p5), .val (.int s1_), .val (.int s2_), .val (.int kd), .val (.int a2), .val (.long l2), .second, .val (.ref b5_), .val .null, .val (.int (0 : Int32))] [.null, (.ref b5_)])) (fun tT kK => ?_) ?_
      · show Steps pP.tables eE below (T7_.setTop (mkF mM 116 #[.val (.int p1), .val (.long q2), .second, .val (.int p3), .val (.long q4), .second, .val (.int p5), .val (.int s1_), .val (.int s2_), .val (.int kd), .val (.int a2), .val (.long l2), .second, .val (.ref b5_), .unset, .unset] [(.int (1 : Int32)), (.int kd)])) tT
        refine XS.icmpNo X7_.here hx rfl (Jvm.hb hby at_116) rfl (teq (hc116_26_ : kd = (1 : Int32))).2 ?_
        show Steps pP.tables eE below (T7_.setTop (mkF mM 119 #[.val (.int p1), .val (.long q2), .second, .val (.int p3), .val (.long q4), .second, .val (.int p5), .val (.int s1_), .val (.int s2_), .val (.int kd), .val (.int a2), .val (.long l2), .second, .val (.ref b5_), .unset, .unset] [])) tT
        refine XS.aconstNull X7_.here hx rfl (Jvm.hb hby at_119) ?_
        show Steps pP.tables eE below (T7_.setTop (mkF mM 120 #[.val (.int p1), .val (.long q2), .second, .val (.int p3), .val (.long q4), .second, .val (.int p5), .val (.int s1_), .val (.int s2_), .val (.int kd), .val (.int a2), .val (.long l2), .second, .val (.ref b5_), .unset, .unset] [.null])) tT
        refine XS.astore X7_.here hx rfl (Jvm.hb hby at_120) rfl rfl (l' := #[.val (.int p1), .val (.long q2), .second, .val (.int p3), .val (.long q4), .second, .val (.int p5), .val (.int s1_), .val (.int s2_), .val (.int kd), .val (.int a2), .val (.long l2), .second, .val (.ref b5_), .val .null, .unset]) rfl ?_
        show Steps pP.tables eE below (T7_.setTop (mkF mM 122 #[.val (.int p1), .val (.long q2), .second, .val (.int p3), .val (.long q4), .second, .val (.int p5), .val (.int s1_), .val (.int s2_), .val (.int kd), .val (.int a2), .val (.long l2), .second, .val (.ref b5_), .val .null, .unset] [])) tT
        refine XS.iconst X7_.here hx rfl (Jvm.hb hby at_122) ?_
        show Steps pP.tables eE below (T7_.setTop (mkF mM 123 #[.val (.int p1), .val (.long q2), .second, .val (.int p3), .val (.long q4), .second, .val (.int p5), .val (.int s1_), .val (.int s2_), .val (.int kd), .val (.int a2), .val (.long l2), .second, .val (.ref b5_), .val .null, .unset] [(.int (0 : Int32))])) tT
        refine XS.istore X7_.here hx rfl (Jvm.hb hby at_123) rfl (l' := #[.val (.int p1), .val (.long q2), .second, .val (.int p3), .val (.long q4), .second, .val (.int p5), .val (.int s1_), .val (.int s2_), .val (.int kd), .val (.int a2), .val (.long l2), .second, .val (.ref b5_), .val .null, .val (.int (0 : Int32))]) rfl ?_
        show Steps pP.tables eE below (T7_.setTop (mkF mM 125 #[.val (.int p1), .val (.long q2), .second, .val (.int p3), .val (.long q4), .second, .val (.int p5), .val (.int s1_), .val (.int s2_), .val (.int kd), .val (.int a2), .val (.long l2), .second, .val (.ref b5_), .val .null, .val (.int (0 : Int32))] [])) tT
        refine XS.goto X7_.here hx rfl (pc0 := 125) (pc' := 162) rfl (Jvm.hb hby at_125) (by decide) (by decide) ?_
        show Steps pP.tables eE below (T7_.setTop (mkF mM 162 #[.val (.int p1), .val (.long q2), .second, .val (.int p3), .val (.long q4), .second, .val (.int p5), .val (.int s1_), .val (.int s2_), .val (.int kd), .val (.int a2), .val (.long l2), .second, .val (.ref b5_), .val .null, .val (.int (0 : Int32))] [])) tT
        refine XS.aload X7_.here hx rfl (Jvm.hb hby at_162) rfl rfl ?_
        show Steps pP.tables eE below (T7_.setTop (mkF mM 164 #[.val (.int p1), .val (.long q2), .second, .val (.int p3), .val (.long q4), .second, .val (.int p5), .val (.int s1_), .val (.int s2_), .val (.int kd), .val (.int a2), .val (.long l2), .second, .val (.ref b5_), .val .null, .val (.int (0 : Int32))] [(.ref b5_)])) tT
        refine XS.aload X7_.here hx rfl (Jvm.hb hby at_164) rfl rfl ?_
        show Steps pP.tables eE below (T7_.setTop (mkF mM 166 #[.val (.int p1), .val (.long q2), .second, .val (.int p3), .val (.long q4), .second, .val (.int p5), .val (.int s1_), .val (.int s2_), .val (.int kd), .val (.int a2), .val (.long l2), .second, .val (.ref b5_), .val .null, .val (.int (0 : Int32))] [.null, (.ref b5_)])) tT
        exact kK
      obtain ⟨cq27_, kq27_, q27_a, q27_b, q27_c⟩ := isOf hZ rfl p7__1
      obtain ⟨_, _, ⟨T27_, L27_, k27_, n27_⟩, -, X27_, ⟨Lc27_, hQ27_, l27_, y27_, z27_⟩, st27_⟩ := X7_.virtualBack hx (y := (⟨"com/example/epoch/epoch/Accepted", "equals", "(Ljava/lang/Object;)Z"⟩ : MethodName)) (z := (⟨"com/example/epoch/epoch/Accepted", "equals", "(Ljava/lang/Object;)Z"⟩ : MethodName)) hown (mvT hZ (hw _ (List.mem_of_getElem? (i := 13) rfl))) (mvT hZ (hw _ (List.mem_of_getElem? (i := 14) rfl))) (notFace_of_selects (args := #[]) (mvT hZ (hw _ (List.mem_of_getElem? (i := 16) rfl)))) (mvT hZ (hw _ (List.mem_of_getElem? (i := 16) rfl))) (mvT hZ (hw _ (List.mem_of_getElem? (i := 15) rfl))) (by decide) (backOf (W := 0) (rm_null lL Z a0 hw [] b5_ T7_.heap n0 (Nat.le_trans Z0 K7_.1) ) hZ (hw _ (List.mem_of_getElem? (i := 17) rfl)) (hw _ (List.mem_of_getElem? (i := 2) rfl)) (by decide) (by decide)) q27_a q27_c (g := (mkF mM 166 #[.val (.int p1), .val (.long q2), .second, .val (.int p3), .val (.long q4), .second, .val (.int p5), .val (.int s1_), .val (.int s2_), .val (.int kd), .val (.int a2), .val (.long l2), .second, .val (.ref b5_), .val .null, .val (.int (0 : Int32))] [.null, (.ref b5_)])) rfl (by rw [hml]; rfl) (Steps.refl _) (argsL := [.null]) (rest := []) (lenOf own_pd3 rfl) rfl (by show 2 * 0 + _ ≤ _; exact Nat.le_of_eq rfl) (Jvm.hb hby at_166) (fun _ _ => ⟨rfl, rfl, (by decide : 1 + 0 ≤ _), (by decide : 2 + 0 ≤ _)⟩)
      dsimp only [Pt.U, Pt.locs, Pt.cells, Pt.slots] at X27_ l27_ y27_ z27_ st27_ hQ27_
      subst l27_ y27_ z27_
      obtain ⟨rfl, N27_q, p27__0⟩ := hQ27_
      have N27_ := Fr.app N7_ N27_q
      refine own_fin (fun tT kK => st27_.trans kK) ?_
      show own_Fin pP eE below _ (T27_.setTop (mkF mM 169 #[.val (.int p1), .val (.long q2), .second, .val (.int p3), .val (.long q4), .second, .val (.int p5), .val (.int s1_), .val (.int s2_), .val (.int kd), .val (.int a2), .val (.long l2), .second, .val (.ref b5_), .val .null, .val (.int (0 : Int32))] [(.int (0 : Int32))]))
      refine own_fin (b := T27_.setTop (mkF mM 178 #[.val (.int p1), .val (.long q2), .second, .val (.int p3), .val (.long q4), .second, .val (.int p5), .val (.int s1_), .val (.int s2_), .val (.int kd), .val (.int a2), .val (.long l2), .second, .val (.ref b5_), .val .null, .val (.int (0 : Int32))] [(.ref b5_), (.ref b5_)])) (fun tT kK => ?_) ?_
      · show Steps pP.tables eE below (T27_.setTop (mkF mM 169 #[.val (.int p1), .val (.long q2), .second, .val (.int p3), .val (.long q4), .second, .val (.int p5), .val (.int s1_), .val (.int s2_), .val (.int kd), .val (.int a2), .val (.long l2), .second, .val (.ref b5_), .val .null, .val (.int (0 : Int32))] [(.int (0 : Int32))])) tT
        refine XS.iload X27_.here hx rfl (Jvm.hb hby at_169) rfl ?_
        show Steps pP.tables eE below (T27_.setTop (mkF mM 171 #[.val (.int p1), .val (.long q2), .second, .val (.int p3), .val (.long q4), .second, .val (.int p5), .val (.int s1_), .val (.int s2_), .val (.int kd), .val (.int a2), .val (.long l2), .second, .val (.ref b5_), .val .null, .val (.int (0 : Int32))] [(.int (0 : Int32)), (.int (0 : Int32))])) tT
        refine XS.icmpNo X27_.here hx rfl (Jvm.hb hby at_171) rfl (teq ((by decide) : (0 : Int32) = (0 : Int32))).2 ?_
        show Steps pP.tables eE below (T27_.setTop (mkF mM 174 #[.val (.int p1), .val (.long q2), .second, .val (.int p3), .val (.long q4), .second, .val (.int p5), .val (.int s1_), .val (.int s2_), .val (.int kd), .val (.int a2), .val (.long l2), .second, .val (.ref b5_), .val .null, .val (.int (0 : Int32))] [])) tT
        refine XS.aload X27_.here hx rfl (Jvm.hb hby at_174) rfl rfl ?_
        show Steps pP.tables eE below (T27_.setTop (mkF mM 176 #[.val (.int p1), .val (.long q2), .second, .val (.int p3), .val (.long q4), .second, .val (.int p5), .val (.int s1_), .val (.int s2_), .val (.int kd), .val (.int a2), .val (.long l2), .second, .val (.ref b5_), .val .null, .val (.int (0 : Int32))] [(.ref b5_)])) tT
        refine XS.aload X27_.here hx rfl (Jvm.hb hby at_176) rfl rfl ?_
        show Steps pP.tables eE below (T27_.setTop (mkF mM 178 #[.val (.int p1), .val (.long q2), .second, .val (.int p3), .val (.long q4), .second, .val (.int p5), .val (.int s1_), .val (.int s2_), .val (.int kd), .val (.int a2), .val (.long l2), .second, .val (.ref b5_), .val .null, .val (.int (0 : Int32))] [(.ref b5_), (.ref b5_)])) tT
        exact kK
      obtain ⟨cq28_, kq28_, q28_a, q28_b, q28_c⟩ := isOf hZ p27__0 p7__1
      obtain ⟨_, _, ⟨T28_, L28_, k28_, n28_⟩, -, X28_, ⟨Lc28_, hQ28_, l28_, y28_, z28_⟩, st28_⟩ := X27_.virtualBack hx (y := (⟨"com/example/epoch/epoch/Accepted", "equals", "(Ljava/lang/Object;)Z"⟩ : MethodName)) (z := (⟨"com/example/epoch/epoch/Accepted", "equals", "(Ljava/lang/Object;)Z"⟩ : MethodName)) hown (mvT hZ (hw _ (List.mem_of_getElem? (i := 13) rfl))) (mvT hZ (hw _ (List.mem_of_getElem? (i := 14) rfl))) (notFace_of_selects (args := #[]) (mvT hZ (hw _ (List.mem_of_getElem? (i := 16) rfl)))) (mvT hZ (hw _ (List.mem_of_getElem? (i := 16) rfl))) (mvT hZ (hw _ (List.mem_of_getElem? (i := 15) rfl))) (by decide) (backOf (W := 0) (rm_self lL Z a0 hw [] b5_ p1 q2 T7_.heap n0 (Nat.le_trans Z0 K7_.1) p7__1 p7__2 p7__3) hZ (hw _ (List.mem_of_getElem? (i := 17) rfl)) (hw _ (List.mem_of_getElem? (i := 2) rfl)) (by decide) (by decide)) q28_a q28_c (g := (mkF mM 178 #[.val (.int p1), .val (.long q2), .second, .val (.int p3), .val (.long q4), .second, .val (.int p5), .val (.int s1_), .val (.int s2_), .val (.int kd), .val (.int a2), .val (.long l2), .second, .val (.ref b5_), .val .null, .val (.int (0 : Int32))] [(.ref b5_), (.ref b5_)])) rfl (by rw [hml]; rfl) (Steps.refl _) (argsL := [(.ref b5_)]) (rest := []) (lenOf own_pd3 rfl) rfl (by show 2 * 0 + _ ≤ _; exact Nat.le_of_eq rfl) (Jvm.hb hby at_178) (fun _ _ => ⟨rfl, p27__0, (by decide : 1 + 0 ≤ _), (by decide : 2 + 0 ≤ _)⟩)
      dsimp only [Pt.U, Pt.locs, Pt.cells, Pt.slots] at X28_ l28_ y28_ z28_ st28_ hQ28_
      subst l28_ y28_ z28_
      obtain ⟨rfl, N28_q, p28__0⟩ := hQ28_
      have N28_ := Fr.app N27_ N28_q
      refine own_fin (fun tT kK => st28_.trans kK) ?_
      show own_Fin pP eE below _ (T28_.setTop (mkF mM 181 #[.val (.int p1), .val (.long q2), .second, .val (.int p3), .val (.long q4), .second, .val (.int p5), .val (.int s1_), .val (.int s2_), .val (.int kd), .val (.int a2), .val (.long l2), .second, .val (.ref b5_), .val .null, .val (.int (0 : Int32))] [(.int (1 : Int32))]))
      refine own_fin (b := T28_.setTop (mkF mM 189 #[.val (.int p1), .val (.long q2), .second, .val (.int p3), .val (.long q4), .second, .val (.int p5), .val (.int s1_), .val (.int s2_), .val (.int kd), .val (.int a2), .val (.long l2), .second, .val (.ref b5_), .val .null, .val (.int (0 : Int32))] [(.int (1 : Int32))])) (fun tT kK => ?_) ?_
      · show Steps pP.tables eE below (T28_.setTop (mkF mM 181 #[.val (.int p1), .val (.long q2), .second, .val (.int p3), .val (.long q4), .second, .val (.int p5), .val (.int s1_), .val (.int s2_), .val (.int kd), .val (.int a2), .val (.long l2), .second, .val (.ref b5_), .val .null, .val (.int (0 : Int32))] [(.int (1 : Int32))])) tT
        refine XS.ifNo X28_.here hx rfl (Jvm.hb hby at_181) rfl ((if0 _ _).trans (feq ((by decide) : ¬ ((1 : Int32) = (0 : Int32)))).1) ?_
        show Steps pP.tables eE below (T28_.setTop (mkF mM 184 #[.val (.int p1), .val (.long q2), .second, .val (.int p3), .val (.long q4), .second, .val (.int p5), .val (.int s1_), .val (.int s2_), .val (.int kd), .val (.int a2), .val (.long l2), .second, .val (.ref b5_), .val .null, .val (.int (0 : Int32))] [])) tT
        refine XS.iconst X28_.here hx rfl (Jvm.hb hby at_184) ?_
        show Steps pP.tables eE below (T28_.setTop (mkF mM 185 #[.val (.int p1), .val (.long q2), .second, .val (.int p3), .val (.long q4), .second, .val (.int p5), .val (.int s1_), .val (.int s2_), .val (.int kd), .val (.int a2), .val (.long l2), .second, .val (.ref b5_), .val .null, .val (.int (0 : Int32))] [(.int (1 : Int32))])) tT
        refine XS.goto X28_.here hx rfl (pc0 := 185) (pc' := 189) rfl (Jvm.hb hby at_185) (by decide) (by decide) ?_
        show Steps pP.tables eE below (T28_.setTop (mkF mM 189 #[.val (.int p1), .val (.long q2), .second, .val (.int p3), .val (.long q4), .second, .val (.int p5), .val (.int s1_), .val (.int s2_), .val (.int kd), .val (.int a2), .val (.long l2), .second, .val (.ref b5_), .val .null, .val (.int (0 : Int32))] [(.int (1 : Int32))])) tT
        exact kK
      obtain ⟨fs, hr, hrun, hended, hW, hsame⟩ := X28_.leave (v := some (.int (1 : Int32))) (fun h => by rw [Bd.returns] at h; cases h)
      refine ⟨_, _, ?_, hrun, hended, _, _, rfl, ?_, ⟨_, rfl⟩, hW, hsame.mono (by decide) (by decide)⟩
      · show Steps pP.tables eE below (T28_.setTop (mkF mM 189 #[.val (.int p1), .val (.long q2), .second, .val (.int p3), .val (.long q4), .second, .val (.int p5), .val (.int s1_), .val (.int s2_), .val (.int kd), .val (.int a2), .val (.long l2), .second, .val (.ref b5_), .val .null, .val (.int (0 : Int32))] [(.int (1 : Int32))])) _
        exact retN X28_ hx (t := .boolean) Bd.returns (by simp) (Jvm.hb hby at_189) hr
      · show Q_rm0 Z p1 q2 p3 q4 p5 ca cc h0 n0 _ T28_.heap _
        rw [p28__0]
        exact ⟨rfl, N28_⟩
    · refine own_fin (b := T7_.setTop (mkF mM 131 #[.val (.int p1), .val (.long q2), .second, .val (.int p3), .val (.long q4), .second, .val (.int p5), .val (.int s1_), .val (.int s2_), .val (.int kd), .val (.int a2), .val (.long l2), .second, .val (.ref b5_), .unset, .unset] [(.int (2 : Int32)), (.int kd)])) (fun tT kK => ?_) ?_
      · show Steps pP.tables eE below (T7_.setTop (mkF mM 116 #[.val (.int p1), .val (.long q2), .second, .val (.int p3), .val (.long q4), .second, .val (.int p5), .val (.int s1_), .val (.int s2_), .val (.int kd), .val (.int a2), .val (.long l2), .second, .val (.ref b5_), .unset, .unset] [(.int (1 : Int32)), (.int kd)])) tT
        refine XS.icmpYes X7_.here hx rfl (pc0 := 116) (pc' := 128) rfl (Jvm.hb hby at_116) rfl (feq (hc116_26_ : ¬ (kd = (1 : Int32)))).2 (by decide) (by decide) ?_
        show Steps pP.tables eE below (T7_.setTop (mkF mM 128 #[.val (.int p1), .val (.long q2), .second, .val (.int p3), .val (.long q4), .second, .val (.int p5), .val (.int s1_), .val (.int s2_), .val (.int kd), .val (.int a2), .val (.long l2), .second, .val (.ref b5_), .unset, .unset] [])) tT
        refine XS.iload X7_.here hx rfl (Jvm.hb hby at_128) rfl ?_
        show Steps pP.tables eE below (T7_.setTop (mkF mM 130 #[.val (.int p1), .val (.long q2), .second, .val (.int p3), .val (.long q4), .second, .val (.int p5), .val (.int s1_), .val (.int s2_), .val (.int kd), .val (.int a2), .val (.long l2), .second, .val (.ref b5_), .unset, .unset] [(.int kd)])) tT
        refine XS.iconst X7_.here hx rfl (Jvm.hb hby at_130) ?_
        show Steps pP.tables eE below (T7_.setTop (mkF mM 131 #[.val (.int p1), .val (.long q2), .second, .val (.int p3), .val (.long q4), .second, .val (.int p5), .val (.int s1_), .val (.int s2_), .val (.int kd), .val (.int a2), .val (.long l2), .second, .val (.ref b5_), .unset, .unset] [(.int (2 : Int32)), (.int kd)])) tT
        exact kK
      by_cases hc131_29_ : kd = (2 : Int32)
      · refine own_fin (b := T7_.setTop (mkF mM 134 #[.val (.int p1), .val (.long q2), .second, .val (.int p3), .val (.long q4), .second, .val (.int p5), .val (.int s1_), .val (.int s2_), .val (.int kd), .val (.int a2), .val (.long l2), .second, .val (.ref b5_), .unset, .unset] [])) (fun tT kK => ?_) ?_
        · show Steps pP.tables eE below (T7_.setTop (mkF mM 131 #[.val (.int p1), .val (.long q2), .second, .val (.int p3), .val (.long q4), .second, .val (.int p5), .val (.int s1_), .val (.int s2_), .val (.int kd), .val (.int a2), .val (.long l2), .second, .val (.ref b5_), .unset, .unset] [(.int (2 : Int32)), (.int kd)])) tT
          refine XS.icmpNo X7_.here hx rfl (Jvm.hb hby at_131) rfl (teq (hc131_29_ : kd = (2 : Int32))).2 ?_
          show Steps pP.tables eE below (T7_.setTop (mkF mM 134 #[.val (.int p1), .val (.long q2), .second, .val (.int p3), .val (.long q4), .second, .val (.int p5), .val (.int s1_), .val (.int s2_), .val (.int kd), .val (.int a2), .val (.long l2), .second, .val (.ref b5_), .unset, .unset] [])) tT
          exact kK
        obtain ⟨T30_, h30_, X30_, e30_, E30_, A30_, D30_, -, st30_⟩ := newO X7_ hx hZ hown (hw _ (List.mem_of_getElem? (i := 20) rfl)) (hw _ (List.mem_of_getElem? (i := 21) rfl)) (hw _ (List.mem_of_getElem? (i := 22) rfl)) rfl (g := (mkF mM 134 #[.val (.int p1), .val (.long q2), .second, .val (.int p3), .val (.long q4), .second, .val (.int p5), .val (.int s1_), .val (.int s2_), .val (.int kd), .val (.int a2), .val (.long l2), .second, .val (.ref b5_), .unset, .unset] [])) rfl (Jvm.hb hby at_134) (by decide) (by decide)
        obtain ⟨b30_, g30_⟩ : ∃ z, z = T7_.heap.size := ⟨_, rfl⟩
        rw [← g30_] at A30_ D30_ st30_
        have sz_b30_ : h0.size ≤ b30_ := Nat.le_trans K7_.1 (Nat.le_of_eq g30_.symm)
        have ge_b30_ : n0 ≤ b30_ := Nat.le_trans Z0 sz_b30_
        have ne31_ : b5_ ≠ b30_ := Nat.ne_of_lt (Nat.lt_of_lt_of_le p7__1.lt (Nat.le_of_eq g30_.symm))
        have fc32_ := fc8_.ext E30_
        have fc33_ := p7__1.ext E30_
        have fc34_ := p7__2.ext E30_
        have fc35_ := p7__3.ext E30_
        have K30_ := K7_.ext E30_
        have F30__epoch : Fld Z h30_ b30_ "com/example/epoch/epoch/Superseded" "epoch" "J" (.long (0 : Int64)) := D30_ (Or.inr (hw _ (List.mem_of_getElem? (i := 28) rfl))) (ty := .long) (by decide)
        have F30__contact : Fld Z h30_ b30_ "com/example/epoch/epoch/Superseded" "contact" "Ljava/lang/String;" .null := D30_ (Or.inr (hw _ (List.mem_of_getElem? (i := 30) rfl))) (ty := (.object "java/lang/String")) (by decide)
        refine own_fin st30_ ?_
        show own_Fin pP eE below _ (T30_.setTop (mkF mM 137 #[.val (.int p1), .val (.long q2), .second, .val (.int p3), .val (.long q4), .second, .val (.int p5), .val (.int s1_), .val (.int s2_), .val (.int kd), .val (.int a2), .val (.long l2), .second, .val (.ref b5_), .unset, .unset] [(.ref b30_)]))
        refine own_fin (b := T30_.setTop (mkF mM 141 #[.val (.int p1), .val (.long q2), .second, .val (.int p3), .val (.long q4), .second, .val (.int p5), .val (.int s1_), .val (.int s2_), .val (.int kd), .val (.int a2), .val (.long l2), .second, .val (.ref b5_), .unset, .unset] [.null, (.long l2), (.ref b30_), (.ref b30_)])) (fun tT kK => ?_) ?_
        · show Steps pP.tables eE below (T30_.setTop (mkF mM 137 #[.val (.int p1), .val (.long q2), .second, .val (.int p3), .val (.long q4), .second, .val (.int p5), .val (.int s1_), .val (.int s2_), .val (.int kd), .val (.int a2), .val (.long l2), .second, .val (.ref b5_), .unset, .unset] [(.ref b30_)])) tT
          refine XS.dup X30_.here hx rfl (Jvm.hb hby at_137) rfl rfl ?_
          show Steps pP.tables eE below (T30_.setTop (mkF mM 138 #[.val (.int p1), .val (.long q2), .second, .val (.int p3), .val (.long q4), .second, .val (.int p5), .val (.int s1_), .val (.int s2_), .val (.int kd), .val (.int a2), .val (.long l2), .second, .val (.ref b5_), .unset, .unset] [(.ref b30_), (.ref b30_)])) tT
          refine XS.lload X30_.here hx rfl (Jvm.hb hby at_138) rfl ?_
          show Steps pP.tables eE below (T30_.setTop (mkF mM 140 #[.val (.int p1), .val (.long q2), .second, .val (.int p3), .val (.long q4), .second, .val (.int p5), .val (.int s1_), .val (.int s2_), .val (.int kd), .val (.int a2), .val (.long l2), .second, .val (.ref b5_), .unset, .unset] [(.long l2), (.ref b30_), (.ref b30_)])) tT
          refine XS.aconstNull X30_.here hx rfl (Jvm.hb hby at_140) ?_
          show Steps pP.tables eE below (T30_.setTop (mkF mM 141 #[.val (.int p1), .val (.long q2), .second, .val (.int p3), .val (.long q4), .second, .val (.int p5), .val (.int s1_), .val (.int s2_), .val (.int kd), .val (.int a2), .val (.long l2), .second, .val (.ref b5_), .unset, .unset] [.null, (.long l2), (.ref b30_), (.ref b30_)])) tT
          exact kK
        obtain ⟨_, _, ⟨T36_, L36_, k36_, n36_⟩, -, X36_, ⟨Lc36_, hQ36_, l36_, y36_, z36_⟩, st36_⟩ := X30_.specialBack hx (y := (⟨"com/example/epoch/epoch/Superseded", "<init>", "(JLjava/lang/String;)V"⟩ : MethodName)) rfl hown (mvT hZ (hw _ (List.mem_of_getElem? (i := 23) rfl))) (mvT hZ (hw _ (List.mem_of_getElem? (i := 24) rfl))) (mvT hZ (hw _ (List.mem_of_getElem? (i := 25) rfl))) (by decide) (backOf (W := 1) (rm_sup lL Z a0 hw [] b30_ l2 h30_ n0 (Nat.le_trans Z0 K30_.1) A30_ F30__epoch F30__contact ge_b30_) hZ (hw _ (List.mem_of_getElem? (i := 25) rfl)) (hw _ (List.mem_of_getElem? (i := 22) rfl)) (by decide) (by decide)) (g := (mkF mM 141 #[.val (.int p1), .val (.long q2), .second, .val (.int p3), .val (.long q4), .second, .val (.int p5), .val (.int s1_), .val (.int s2_), .val (.int kd), .val (.int a2), .val (.long l2), .second, .val (.ref b5_), .unset, .unset] [.null, (.long l2), (.ref b30_), (.ref b30_)])) rfl (by rw [hml]; rfl) (Steps.refl _) (a := b30_) (argsL := [(.long l2), .null]) (rest := [(.ref b30_)]) (lenOf own_pd4 rfl) rfl (by show 2 * 0 + _ ≤ _; exact Nat.le_of_eq rfl) (Jvm.hb hby at_141) (fun _ _ => ⟨rfl, e30_, (by decide : 2 + 0 ≤ _), (by decide : 4 + 0 ≤ _)⟩)
        dsimp only [Pt.U, Pt.locs, Pt.cells, Pt.slots] at X36_ l36_ y36_ z36_ st36_ hQ36_
        subst l36_ y36_ z36_
        obtain ⟨rfl, N36_q, p36__0, p36__1, p36__2, p36__3⟩ := hQ36_
        have N36_ := Fr.app N7_ N36_q
        have fc37_ := fc32_.keep p36__0 (allS ge_b30_ all0)
        have fc38_ := fc33_.keep p36__0
        have fc39_ := fc34_.keep p36__0 (ninS ne31_ nin0)
        have fc40_ := fc35_.keep p36__0 (ninS ne31_ nin0)
        have fc41_ := A30_.keep p36__0
        have K36_ := K30_.trans p36__0 (allS (Or.inr sz_b30_) all0)
        refine own_fin (fun tT kK => st36_.trans kK) ?_
        show own_Fin pP eE below _ (T36_.setTop (mkF mM 144 #[.val (.int p1), .val (.long q2), .second, .val (.int p3), .val (.long q4), .second, .val (.int p5), .val (.int s1_), .val (.int s2_), .val (.int kd), .val (.int a2), .val (.long l2), .second, .val (.ref b5_), .unset, .unset] [(.ref b30_)]))
        refine own_fin (b := T36_.setTop (mkF mM 166 #[.val (.int p1), .val (.long q2), .second, .val (.int p3), .val (.long q4), .second, .val (.int p5), .val (.int s1_), .val (.int s2_), .val (.int kd), .val (.int a2), .val (.long l2), .second, .val (.ref b5_), .val (.ref b30_), .val (.int (0 : Int32))] [(.ref b30_), (.ref b5_)])) (fun tT kK => ?_) ?_
        · show Steps pP.tables eE below (T36_.setTop (mkF mM 144 #[.val (.int p1), .val (.long q2), .second, .val (.int p3), .val (.long q4), .second, .val (.int p5), .val (.int s1_), .val (.int s2_), .val (.int kd), .val (.int a2), .val (.long l2), .second, .val (.ref b5_), .unset, .unset] [(.ref b30_)])) tT
          refine XS.astore X36_.here hx rfl (Jvm.hb hby at_144) rfl rfl (l' := #[.val (.int p1), .val (.long q2), .second, .val (.int p3), .val (.long q4), .second, .val (.int p5), .val (.int s1_), .val (.int s2_), .val (.int kd), .val (.int a2), .val (.long l2), .second, .val (.ref b5_), .val (.ref b30_), .unset]) rfl ?_
          show Steps pP.tables eE below (T36_.setTop (mkF mM 146 #[.val (.int p1), .val (.long q2), .second, .val (.int p3), .val (.long q4), .second, .val (.int p5), .val (.int s1_), .val (.int s2_), .val (.int kd), .val (.int a2), .val (.long l2), .second, .val (.ref b5_), .val (.ref b30_), .unset] [])) tT
          refine XS.iconst X36_.here hx rfl (Jvm.hb hby at_146) ?_
          show Steps pP.tables eE below (T36_.setTop (mkF mM 147 #[.val (.int p1), .val (.long q2), .second, .val (.int p3), .val (.long q4), .second, .val (.int p5), .val (.int s1_), .val (.int s2_), .val (.int kd), .val (.int a2), .val (.long l2), .second, .val (.ref b5_), .val (.ref b30_), .unset] [(.int (0 : Int32))])) tT
          refine XS.istore X36_.here hx rfl (Jvm.hb hby at_147) rfl (l' := #[.val (.int p1), .val (.long q2), .second, .val (.int p3), .val (.long q4), .second, .val (.int p5), .val (.int s1_), .val (.int s2_), .val (.int kd), .val (.int a2), .val (.long l2), .second, .val (.ref b5_), .val (.ref b30_), .val (.int (0 : Int32))]) rfl ?_
          show Steps pP.tables eE below (T36_.setTop (mkF mM 149 #[.val (.int p1), .val (.long q2), .second, .val (.int p3), .val (.long q4), .second, .val (.int p5), .val (.int s1_), .val (.int s2_), .val (.int kd), .val (.int a2), .val (.long l2), .second, .val (.ref b5_), .val (.ref b30_), .val (.int (0 : Int32))] [])) tT
          refine XS.goto X36_.here hx rfl (pc0 := 149) (pc' := 162) rfl (Jvm.hb hby at_149) (by decide) (by decide) ?_
          show Steps pP.tables eE below (T36_.setTop (mkF mM 162 #[.val (.int p1), .val (.long q2), .second, .val (.int p3), .val (.long q4), .second, .val (.int p5), .val (.int s1_), .val (.int s2_), .val (.int kd), .val (.int a2), .val (.long l2), .second, .val (.ref b5_), .val (.ref b30_), .val (.int (0 : Int32))] [])) tT
          refine XS.aload X36_.here hx rfl (Jvm.hb hby at_162) rfl rfl ?_
          show Steps pP.tables eE below (T36_.setTop (mkF mM 164 #[.val (.int p1), .val (.long q2), .second, .val (.int p3), .val (.long q4), .second, .val (.int p5), .val (.int s1_), .val (.int s2_), .val (.int kd), .val (.int a2), .val (.long l2), .second, .val (.ref b5_), .val (.ref b30_), .val (.int (0 : Int32))] [(.ref b5_)])) tT
          refine XS.aload X36_.here hx rfl (Jvm.hb hby at_164) rfl rfl ?_
          show Steps pP.tables eE below (T36_.setTop (mkF mM 166 #[.val (.int p1), .val (.long q2), .second, .val (.int p3), .val (.long q4), .second, .val (.int p5), .val (.int s1_), .val (.int s2_), .val (.int kd), .val (.int a2), .val (.long l2), .second, .val (.ref b5_), .val (.ref b30_), .val (.int (0 : Int32))] [(.ref b30_), (.ref b5_)])) tT
          exact kK
        obtain ⟨cq42_, kq42_, q42_a, q42_b, q42_c⟩ := isOf hZ rfl fc38_
        obtain ⟨_, _, ⟨T42_, L42_, k42_, n42_⟩, -, X42_, ⟨Lc42_, hQ42_, l42_, y42_, z42_⟩, st42_⟩ := X36_.virtualBack hx (y := (⟨"com/example/epoch/epoch/Accepted", "equals", "(Ljava/lang/Object;)Z"⟩ : MethodName)) (z := (⟨"com/example/epoch/epoch/Accepted", "equals", "(Ljava/lang/Object;)Z"⟩ : MethodName)) hown (mvT hZ (hw _ (List.mem_of_getElem? (i := 13) rfl))) (mvT hZ (hw _ (List.mem_of_getElem? (i := 14) rfl))) (notFace_of_selects (args := #[]) (mvT hZ (hw _ (List.mem_of_getElem? (i := 16) rfl)))) (mvT hZ (hw _ (List.mem_of_getElem? (i := 16) rfl))) (mvT hZ (hw _ (List.mem_of_getElem? (i := 15) rfl))) (by decide) (backOf (W := 0) (rm_no2 lL Z a0 hw [] b5_ b30_ T36_.heap n0 (Nat.le_trans Z0 K36_.1) p36__1) hZ (hw _ (List.mem_of_getElem? (i := 17) rfl)) (hw _ (List.mem_of_getElem? (i := 2) rfl)) (by decide) (by decide)) q42_a q42_c (g := (mkF mM 166 #[.val (.int p1), .val (.long q2), .second, .val (.int p3), .val (.long q4), .second, .val (.int p5), .val (.int s1_), .val (.int s2_), .val (.int kd), .val (.int a2), .val (.long l2), .second, .val (.ref b5_), .val (.ref b30_), .val (.int (0 : Int32))] [(.ref b30_), (.ref b5_)])) rfl (by rw [hml]; rfl) (Steps.refl _) (argsL := [(.ref b30_)]) (rest := []) (lenOf own_pd3 rfl) rfl (by show 2 * 0 + _ ≤ _; exact Nat.le_of_eq rfl) (Jvm.hb hby at_166) (fun _ _ => ⟨rfl, rfl, (by decide : 2 + 0 ≤ _), (by decide : 4 + 0 ≤ _)⟩)
        dsimp only [Pt.U, Pt.locs, Pt.cells, Pt.slots] at X42_ l42_ y42_ z42_ st42_ hQ42_
        subst l42_ y42_ z42_
        obtain ⟨rfl, N42_q, p42__0⟩ := hQ42_
        have N42_ := Fr.app N36_ N42_q
        refine own_fin (fun tT kK => st42_.trans kK) ?_
        show own_Fin pP eE below _ (T42_.setTop (mkF mM 169 #[.val (.int p1), .val (.long q2), .second, .val (.int p3), .val (.long q4), .second, .val (.int p5), .val (.int s1_), .val (.int s2_), .val (.int kd), .val (.int a2), .val (.long l2), .second, .val (.ref b5_), .val (.ref b30_), .val (.int (0 : Int32))] [(.int (0 : Int32))]))
        refine own_fin (b := T42_.setTop (mkF mM 178 #[.val (.int p1), .val (.long q2), .second, .val (.int p3), .val (.long q4), .second, .val (.int p5), .val (.int s1_), .val (.int s2_), .val (.int kd), .val (.int a2), .val (.long l2), .second, .val (.ref b5_), .val (.ref b30_), .val (.int (0 : Int32))] [(.ref b5_), (.ref b5_)])) (fun tT kK => ?_) ?_
        · show Steps pP.tables eE below (T42_.setTop (mkF mM 169 #[.val (.int p1), .val (.long q2), .second, .val (.int p3), .val (.long q4), .second, .val (.int p5), .val (.int s1_), .val (.int s2_), .val (.int kd), .val (.int a2), .val (.long l2), .second, .val (.ref b5_), .val (.ref b30_), .val (.int (0 : Int32))] [(.int (0 : Int32))])) tT
          refine XS.iload X42_.here hx rfl (Jvm.hb hby at_169) rfl ?_
          show Steps pP.tables eE below (T42_.setTop (mkF mM 171 #[.val (.int p1), .val (.long q2), .second, .val (.int p3), .val (.long q4), .second, .val (.int p5), .val (.int s1_), .val (.int s2_), .val (.int kd), .val (.int a2), .val (.long l2), .second, .val (.ref b5_), .val (.ref b30_), .val (.int (0 : Int32))] [(.int (0 : Int32)), (.int (0 : Int32))])) tT
          refine XS.icmpNo X42_.here hx rfl (Jvm.hb hby at_171) rfl (teq ((by decide) : (0 : Int32) = (0 : Int32))).2 ?_
          show Steps pP.tables eE below (T42_.setTop (mkF mM 174 #[.val (.int p1), .val (.long q2), .second, .val (.int p3), .val (.long q4), .second, .val (.int p5), .val (.int s1_), .val (.int s2_), .val (.int kd), .val (.int a2), .val (.long l2), .second, .val (.ref b5_), .val (.ref b30_), .val (.int (0 : Int32))] [])) tT
          refine XS.aload X42_.here hx rfl (Jvm.hb hby at_174) rfl rfl ?_
          show Steps pP.tables eE below (T42_.setTop (mkF mM 176 #[.val (.int p1), .val (.long q2), .second, .val (.int p3), .val (.long q4), .second, .val (.int p5), .val (.int s1_), .val (.int s2_), .val (.int kd), .val (.int a2), .val (.long l2), .second, .val (.ref b5_), .val (.ref b30_), .val (.int (0 : Int32))] [(.ref b5_)])) tT
          refine XS.aload X42_.here hx rfl (Jvm.hb hby at_176) rfl rfl ?_
          show Steps pP.tables eE below (T42_.setTop (mkF mM 178 #[.val (.int p1), .val (.long q2), .second, .val (.int p3), .val (.long q4), .second, .val (.int p5), .val (.int s1_), .val (.int s2_), .val (.int kd), .val (.int a2), .val (.long l2), .second, .val (.ref b5_), .val (.ref b30_), .val (.int (0 : Int32))] [(.ref b5_), (.ref b5_)])) tT
          exact kK
        obtain ⟨cq43_, kq43_, q43_a, q43_b, q43_c⟩ := isOf hZ p42__0 fc38_
        obtain ⟨_, _, ⟨T43_, L43_, k43_, n43_⟩, -, X43_, ⟨Lc43_, hQ43_, l43_, y43_, z43_⟩, st43_⟩ := X42_.virtualBack hx (y := (⟨"com/example/epoch/epoch/Accepted", "equals", "(Ljava/lang/Object;)Z"⟩ : MethodName)) (z := (⟨"com/example/epoch/epoch/Accepted", "equals", "(Ljava/lang/Object;)Z"⟩ : MethodName)) hown (mvT hZ (hw _ (List.mem_of_getElem? (i := 13) rfl))) (mvT hZ (hw _ (List.mem_of_getElem? (i := 14) rfl))) (notFace_of_selects (args := #[]) (mvT hZ (hw _ (List.mem_of_getElem? (i := 16) rfl)))) (mvT hZ (hw _ (List.mem_of_getElem? (i := 16) rfl))) (mvT hZ (hw _ (List.mem_of_getElem? (i := 15) rfl))) (by decide) (backOf (W := 0) (rm_self lL Z a0 hw [] b5_ p1 q2 T36_.heap n0 (Nat.le_trans Z0 K36_.1) fc38_ fc39_ fc40_) hZ (hw _ (List.mem_of_getElem? (i := 17) rfl)) (hw _ (List.mem_of_getElem? (i := 2) rfl)) (by decide) (by decide)) q43_a q43_c (g := (mkF mM 178 #[.val (.int p1), .val (.long q2), .second, .val (.int p3), .val (.long q4), .second, .val (.int p5), .val (.int s1_), .val (.int s2_), .val (.int kd), .val (.int a2), .val (.long l2), .second, .val (.ref b5_), .val (.ref b30_), .val (.int (0 : Int32))] [(.ref b5_), (.ref b5_)])) rfl (by rw [hml]; rfl) (Steps.refl _) (argsL := [(.ref b5_)]) (rest := []) (lenOf own_pd3 rfl) rfl (by show 2 * 0 + _ ≤ _; exact Nat.le_of_eq rfl) (Jvm.hb hby at_178) (fun _ _ => ⟨rfl, p42__0, (by decide : 2 + 0 ≤ _), (by decide : 4 + 0 ≤ _)⟩)
        dsimp only [Pt.U, Pt.locs, Pt.cells, Pt.slots] at X43_ l43_ y43_ z43_ st43_ hQ43_
        subst l43_ y43_ z43_
        obtain ⟨rfl, N43_q, p43__0⟩ := hQ43_
        have N43_ := Fr.app N42_ N43_q
        refine own_fin (fun tT kK => st43_.trans kK) ?_
        show own_Fin pP eE below _ (T43_.setTop (mkF mM 181 #[.val (.int p1), .val (.long q2), .second, .val (.int p3), .val (.long q4), .second, .val (.int p5), .val (.int s1_), .val (.int s2_), .val (.int kd), .val (.int a2), .val (.long l2), .second, .val (.ref b5_), .val (.ref b30_), .val (.int (0 : Int32))] [(.int (1 : Int32))]))
        refine own_fin (b := T43_.setTop (mkF mM 189 #[.val (.int p1), .val (.long q2), .second, .val (.int p3), .val (.long q4), .second, .val (.int p5), .val (.int s1_), .val (.int s2_), .val (.int kd), .val (.int a2), .val (.long l2), .second, .val (.ref b5_), .val (.ref b30_), .val (.int (0 : Int32))] [(.int (1 : Int32))])) (fun tT kK => ?_) ?_
        · show Steps pP.tables eE below (T43_.setTop (mkF mM 181 #[.val (.int p1), .val (.long q2), .second, .val (.int p3), .val (.long q4), .second, .val (.int p5), .val (.int s1_), .val (.int s2_), .val (.int kd), .val (.int a2), .val (.long l2), .second, .val (.ref b5_), .val (.ref b30_), .val (.int (0 : Int32))] [(.int (1 : Int32))])) tT
          refine XS.ifNo X43_.here hx rfl (Jvm.hb hby at_181) rfl ((if0 _ _).trans (feq ((by decide) : ¬ ((1 : Int32) = (0 : Int32)))).1) ?_
          show Steps pP.tables eE below (T43_.setTop (mkF mM 184 #[.val (.int p1), .val (.long q2), .second, .val (.int p3), .val (.long q4), .second, .val (.int p5), .val (.int s1_), .val (.int s2_), .val (.int kd), .val (.int a2), .val (.long l2), .second, .val (.ref b5_), .val (.ref b30_), .val (.int (0 : Int32))] [])) tT
          refine XS.iconst X43_.here hx rfl (Jvm.hb hby at_184) ?_
          show Steps pP.tables eE below (T43_.setTop (mkF mM 185 #[.val (.int p1), .val (.long q2), .second, .val (.int p3), .val (.long q4), .second, .val (.int p5), .val (.int s1_), .val (.int s2_), .val (.int kd), .val (.int a2), .val (.long l2), .second, .val (.ref b5_), .val (.ref b30_), .val (.int (0 : Int32))] [(.int (1 : Int32))])) tT
          refine XS.goto X43_.here hx rfl (pc0 := 185) (pc' := 189) rfl (Jvm.hb hby at_185) (by decide) (by decide) ?_
          show Steps pP.tables eE below (T43_.setTop (mkF mM 189 #[.val (.int p1), .val (.long q2), .second, .val (.int p3), .val (.long q4), .second, .val (.int p5), .val (.int s1_), .val (.int s2_), .val (.int kd), .val (.int a2), .val (.long l2), .second, .val (.ref b5_), .val (.ref b30_), .val (.int (0 : Int32))] [(.int (1 : Int32))])) tT
          exact kK
        obtain ⟨fs, hr, hrun, hended, hW, hsame⟩ := X43_.leave (v := some (.int (1 : Int32))) (fun h => by rw [Bd.returns] at h; cases h)
        refine ⟨_, _, ?_, hrun, hended, _, _, rfl, ?_, ⟨_, rfl⟩, hW, hsame.mono (by decide) (by decide)⟩
        · show Steps pP.tables eE below (T43_.setTop (mkF mM 189 #[.val (.int p1), .val (.long q2), .second, .val (.int p3), .val (.long q4), .second, .val (.int p5), .val (.int s1_), .val (.int s2_), .val (.int kd), .val (.int a2), .val (.long l2), .second, .val (.ref b5_), .val (.ref b30_), .val (.int (0 : Int32))] [(.int (1 : Int32))])) _
          exact retN X43_ hx (t := .boolean) Bd.returns (by simp) (Jvm.hb hby at_189) hr
        · show Q_rm0 Z p1 q2 p3 q4 p5 ca cc h0 n0 _ T43_.heap _
          rw [p43__0]
          exact ⟨rfl, N43_⟩
      · refine own_fin (b := T7_.setTop (mkF mM 154 #[.val (.int p1), .val (.long q2), .second, .val (.int p3), .val (.long q4), .second, .val (.int p5), .val (.int s1_), .val (.int s2_), .val (.int kd), .val (.int a2), .val (.long l2), .second, .val (.ref b5_), .unset, .unset] [(.long l2)])) (fun tT kK => ?_) ?_
        · show Steps pP.tables eE below (T7_.setTop (mkF mM 131 #[.val (.int p1), .val (.long q2), .second, .val (.int p3), .val (.long q4), .second, .val (.int p5), .val (.int s1_), .val (.int s2_), .val (.int kd), .val (.int a2), .val (.long l2), .second, .val (.ref b5_), .unset, .unset] [(.int (2 : Int32)), (.int kd)])) tT
          refine XS.icmpYes X7_.here hx rfl (pc0 := 131) (pc' := 152) rfl (Jvm.hb hby at_131) rfl (feq (hc131_29_ : ¬ (kd = (2 : Int32)))).2 (by decide) (by decide) ?_
          show Steps pP.tables eE below (T7_.setTop (mkF mM 152 #[.val (.int p1), .val (.long q2), .second, .val (.int p3), .val (.long q4), .second, .val (.int p5), .val (.int s1_), .val (.int s2_), .val (.int kd), .val (.int a2), .val (.long l2), .second, .val (.ref b5_), .unset, .unset] [])) tT
          refine XS.lload X7_.here hx rfl (Jvm.hb hby at_152) rfl ?_
          show Steps pP.tables eE below (T7_.setTop (mkF mM 154 #[.val (.int p1), .val (.long q2), .second, .val (.int p3), .val (.long q4), .second, .val (.int p5), .val (.int s1_), .val (.int s2_), .val (.int kd), .val (.int a2), .val (.long l2), .second, .val (.ref b5_), .unset, .unset] [(.long l2)])) tT
          exact kK
        obtain ⟨_, _, ⟨T44_, L44_, k44_, n44_⟩, -, X44_, ⟨Lc44_, hQ44_, l44_, y44_, z44_⟩, st44_⟩ := Jvm.LawKit.callS X7_ hx (y := (⟨"java/lang/Long", "valueOf", "(J)Ljava/lang/Long;"⟩ : MethodName)) hown (mvT hZ (hw _ (List.mem_of_getElem? (i := 33) rfl))) (mvT hZ (hw _ (List.mem_of_getElem? (i := 34) rfl))) (mvT hZ (hw _ (List.mem_of_getElem? (i := 35) rfl))) (mvT hZ (hw _ (List.mem_of_getElem? (i := 36) rfl))) (by decide) (backOf (W := 0) (rm_lval lL Z a0 hw [] l2 ca cc T7_.heap n0 (Nat.le_trans Z0 K7_.1) fc8_ Ca Sa) hZ (hw _ (List.mem_of_getElem? (i := 36) rfl)) (hw _ (List.mem_of_getElem? (i := 35) rfl)) (by decide) (by decide)) (g := (mkF mM 154 #[.val (.int p1), .val (.long q2), .second, .val (.int p3), .val (.long q4), .second, .val (.int p5), .val (.int s1_), .val (.int s2_), .val (.int kd), .val (.int a2), .val (.long l2), .second, .val (.ref b5_), .unset, .unset] [(.long l2)])) rfl (by rw [hml]; rfl) (argsL := [(.long l2)]) (rest := []) (lenOf own_pd5 rfl) rfl (by show 2 * 0 + _ ≤ _; exact Nat.le_of_eq rfl) (Jvm.hb hby at_154) (fun _ _ => ⟨rfl, rfl, (by decide : 1 + 1 ≤ _), (by decide : 2 + 1 ≤ _)⟩)
        dsimp only [Pt.U, Pt.locs, Pt.cells, Pt.slots] at X44_ l44_ y44_ z44_ st44_ hQ44_
        subst l44_ y44_ z44_
        obtain ⟨b_44_, rfl, N44_q, p44__0, p44__1⟩ := hQ44_
        have N44_ := Fr.app N7_ N44_q
        have fc45_ := fc8_.keep p44__0 all0
        have fc46_ := p7__1.keep p44__0
        have fc47_ := p7__2.keep p44__0 nin0
        have fc48_ := p7__3.keep p44__0 nin0
        have K44_ := K7_.trans p44__0 all0
        refine own_fin (fun tT kK => st44_ tT kK) ?_
        show own_Fin pP eE below _ (T44_.setTop (mkF mM 157 #[.val (.int p1), .val (.long q2), .second, .val (.int p3), .val (.long q4), .second, .val (.int p5), .val (.int s1_), .val (.int s2_), .val (.int kd), .val (.int a2), .val (.long l2), .second, .val (.ref b5_), .unset, .unset] [(.ref b_44_)]))
        refine own_fin (b := T44_.setTop (mkF mM 166 #[.val (.int p1), .val (.long q2), .second, .val (.int p3), .val (.long q4), .second, .val (.int p5), .val (.int s1_), .val (.int s2_), .val (.int kd), .val (.int a2), .val (.long l2), .second, .val (.ref b5_), .val (.ref b_44_), .val (.int (0 : Int32))] [(.ref b_44_), (.ref b5_)])) (fun tT kK => ?_) ?_
        · show Steps pP.tables eE below (T44_.setTop (mkF mM 157 #[.val (.int p1), .val (.long q2), .second, .val (.int p3), .val (.long q4), .second, .val (.int p5), .val (.int s1_), .val (.int s2_), .val (.int kd), .val (.int a2), .val (.long l2), .second, .val (.ref b5_), .unset, .unset] [(.ref b_44_)])) tT
          refine XS.astore X44_.here hx rfl (Jvm.hb hby at_157) rfl rfl (l' := #[.val (.int p1), .val (.long q2), .second, .val (.int p3), .val (.long q4), .second, .val (.int p5), .val (.int s1_), .val (.int s2_), .val (.int kd), .val (.int a2), .val (.long l2), .second, .val (.ref b5_), .val (.ref b_44_), .unset]) rfl ?_
          show Steps pP.tables eE below (T44_.setTop (mkF mM 159 #[.val (.int p1), .val (.long q2), .second, .val (.int p3), .val (.long q4), .second, .val (.int p5), .val (.int s1_), .val (.int s2_), .val (.int kd), .val (.int a2), .val (.long l2), .second, .val (.ref b5_), .val (.ref b_44_), .unset] [])) tT
          refine XS.iconst X44_.here hx rfl (Jvm.hb hby at_159) ?_
          show Steps pP.tables eE below (T44_.setTop (mkF mM 160 #[.val (.int p1), .val (.long q2), .second, .val (.int p3), .val (.long q4), .second, .val (.int p5), .val (.int s1_), .val (.int s2_), .val (.int kd), .val (.int a2), .val (.long l2), .second, .val (.ref b5_), .val (.ref b_44_), .unset] [(.int (0 : Int32))])) tT
          refine XS.istore X44_.here hx rfl (Jvm.hb hby at_160) rfl (l' := #[.val (.int p1), .val (.long q2), .second, .val (.int p3), .val (.long q4), .second, .val (.int p5), .val (.int s1_), .val (.int s2_), .val (.int kd), .val (.int a2), .val (.long l2), .second, .val (.ref b5_), .val (.ref b_44_), .val (.int (0 : Int32))]) rfl ?_
          show Steps pP.tables eE below (T44_.setTop (mkF mM 162 #[.val (.int p1), .val (.long q2), .second, .val (.int p3), .val (.long q4), .second, .val (.int p5), .val (.int s1_), .val (.int s2_), .val (.int kd), .val (.int a2), .val (.long l2), .second, .val (.ref b5_), .val (.ref b_44_), .val (.int (0 : Int32))] [])) tT
          refine XS.aload X44_.here hx rfl (Jvm.hb hby at_162) rfl rfl ?_
          show Steps pP.tables eE below (T44_.setTop (mkF mM 164 #[.val (.int p1), .val (.long q2), .second, .val (.int p3), .val (.long q4), .second, .val (.int p5), .val (.int s1_), .val (.int s2_), .val (.int kd), .val (.int a2), .val (.long l2), .second, .val (.ref b5_), .val (.ref b_44_), .val (.int (0 : Int32))] [(.ref b5_)])) tT
          refine XS.aload X44_.here hx rfl (Jvm.hb hby at_164) rfl rfl ?_
          show Steps pP.tables eE below (T44_.setTop (mkF mM 166 #[.val (.int p1), .val (.long q2), .second, .val (.int p3), .val (.long q4), .second, .val (.int p5), .val (.int s1_), .val (.int s2_), .val (.int kd), .val (.int a2), .val (.long l2), .second, .val (.ref b5_), .val (.ref b_44_), .val (.int (0 : Int32))] [(.ref b_44_), (.ref b5_)])) tT
          exact kK
        obtain ⟨cq49_, kq49_, q49_a, q49_b, q49_c⟩ := isOf hZ rfl fc46_
        obtain ⟨_, _, ⟨T49_, L49_, k49_, n49_⟩, -, X49_, ⟨Lc49_, hQ49_, l49_, y49_, z49_⟩, st49_⟩ := X44_.virtualBack hx (y := (⟨"com/example/epoch/epoch/Accepted", "equals", "(Ljava/lang/Object;)Z"⟩ : MethodName)) (z := (⟨"com/example/epoch/epoch/Accepted", "equals", "(Ljava/lang/Object;)Z"⟩ : MethodName)) hown (mvT hZ (hw _ (List.mem_of_getElem? (i := 13) rfl))) (mvT hZ (hw _ (List.mem_of_getElem? (i := 14) rfl))) (notFace_of_selects (args := #[]) (mvT hZ (hw _ (List.mem_of_getElem? (i := 16) rfl)))) (mvT hZ (hw _ (List.mem_of_getElem? (i := 16) rfl))) (mvT hZ (hw _ (List.mem_of_getElem? (i := 15) rfl))) (by decide) (backOf (W := 0) (rm_no lL Z a0 hw [] b5_ b_44_ T44_.heap n0 (Nat.le_trans Z0 K44_.1) p44__1) hZ (hw _ (List.mem_of_getElem? (i := 17) rfl)) (hw _ (List.mem_of_getElem? (i := 2) rfl)) (by decide) (by decide)) q49_a q49_c (g := (mkF mM 166 #[.val (.int p1), .val (.long q2), .second, .val (.int p3), .val (.long q4), .second, .val (.int p5), .val (.int s1_), .val (.int s2_), .val (.int kd), .val (.int a2), .val (.long l2), .second, .val (.ref b5_), .val (.ref b_44_), .val (.int (0 : Int32))] [(.ref b_44_), (.ref b5_)])) rfl (by rw [hml]; rfl) (Steps.refl _) (argsL := [(.ref b_44_)]) (rest := []) (lenOf own_pd3 rfl) rfl (by show 2 * 0 + _ ≤ _; exact Nat.le_of_eq rfl) (Jvm.hb hby at_166) (fun _ _ => ⟨rfl, rfl, (by decide : 2 + 0 ≤ _), (by decide : 3 + 0 ≤ _)⟩)
        dsimp only [Pt.U, Pt.locs, Pt.cells, Pt.slots] at X49_ l49_ y49_ z49_ st49_ hQ49_
        subst l49_ y49_ z49_
        obtain ⟨rfl, N49_q, p49__0⟩ := hQ49_
        have N49_ := Fr.app N44_ N49_q
        refine own_fin (fun tT kK => st49_.trans kK) ?_
        show own_Fin pP eE below _ (T49_.setTop (mkF mM 169 #[.val (.int p1), .val (.long q2), .second, .val (.int p3), .val (.long q4), .second, .val (.int p5), .val (.int s1_), .val (.int s2_), .val (.int kd), .val (.int a2), .val (.long l2), .second, .val (.ref b5_), .val (.ref b_44_), .val (.int (0 : Int32))] [(.int (0 : Int32))]))
        refine own_fin (b := T49_.setTop (mkF mM 178 #[.val (.int p1), .val (.long q2), .second, .val (.int p3), .val (.long q4), .second, .val (.int p5), .val (.int s1_), .val (.int s2_), .val (.int kd), .val (.int a2), .val (.long l2), .second, .val (.ref b5_), .val (.ref b_44_), .val (.int (0 : Int32))] [(.ref b5_), (.ref b5_)])) (fun tT kK => ?_) ?_
        · show Steps pP.tables eE below (T49_.setTop (mkF mM 169 #[.val (.int p1), .val (.long q2), .second, .val (.int p3), .val (.long q4), .second, .val (.int p5), .val (.int s1_), .val (.int s2_), .val (.int kd), .val (.int a2), .val (.long l2), .second, .val (.ref b5_), .val (.ref b_44_), .val (.int (0 : Int32))] [(.int (0 : Int32))])) tT
          refine XS.iload X49_.here hx rfl (Jvm.hb hby at_169) rfl ?_
          show Steps pP.tables eE below (T49_.setTop (mkF mM 171 #[.val (.int p1), .val (.long q2), .second, .val (.int p3), .val (.long q4), .second, .val (.int p5), .val (.int s1_), .val (.int s2_), .val (.int kd), .val (.int a2), .val (.long l2), .second, .val (.ref b5_), .val (.ref b_44_), .val (.int (0 : Int32))] [(.int (0 : Int32)), (.int (0 : Int32))])) tT
          refine XS.icmpNo X49_.here hx rfl (Jvm.hb hby at_171) rfl (teq ((by decide) : (0 : Int32) = (0 : Int32))).2 ?_
          show Steps pP.tables eE below (T49_.setTop (mkF mM 174 #[.val (.int p1), .val (.long q2), .second, .val (.int p3), .val (.long q4), .second, .val (.int p5), .val (.int s1_), .val (.int s2_), .val (.int kd), .val (.int a2), .val (.long l2), .second, .val (.ref b5_), .val (.ref b_44_), .val (.int (0 : Int32))] [])) tT
          refine XS.aload X49_.here hx rfl (Jvm.hb hby at_174) rfl rfl ?_
          show Steps pP.tables eE below (T49_.setTop (mkF mM 176 #[.val (.int p1), .val (.long q2), .second, .val (.int p3), .val (.long q4), .second, .val (.int p5), .val (.int s1_), .val (.int s2_), .val (.int kd), .val (.int a2), .val (.long l2), .second, .val (.ref b5_), .val (.ref b_44_), .val (.int (0 : Int32))] [(.ref b5_)])) tT
          refine XS.aload X49_.here hx rfl (Jvm.hb hby at_176) rfl rfl ?_
          show Steps pP.tables eE below (T49_.setTop (mkF mM 178 #[.val (.int p1), .val (.long q2), .second, .val (.int p3), .val (.long q4), .second, .val (.int p5), .val (.int s1_), .val (.int s2_), .val (.int kd), .val (.int a2), .val (.long l2), .second, .val (.ref b5_), .val (.ref b_44_), .val (.int (0 : Int32))] [(.ref b5_), (.ref b5_)])) tT
          exact kK
        obtain ⟨cq50_, kq50_, q50_a, q50_b, q50_c⟩ := isOf hZ p49__0 fc46_
        obtain ⟨_, _, ⟨T50_, L50_, k50_, n50_⟩, -, X50_, ⟨Lc50_, hQ50_, l50_, y50_, z50_⟩, st50_⟩ := X49_.virtualBack hx (y := (⟨"com/example/epoch/epoch/Accepted", "equals", "(Ljava/lang/Object;)Z"⟩ : MethodName)) (z := (⟨"com/example/epoch/epoch/Accepted", "equals", "(Ljava/lang/Object;)Z"⟩ : MethodName)) hown (mvT hZ (hw _ (List.mem_of_getElem? (i := 13) rfl))) (mvT hZ (hw _ (List.mem_of_getElem? (i := 14) rfl))) (notFace_of_selects (args := #[]) (mvT hZ (hw _ (List.mem_of_getElem? (i := 16) rfl)))) (mvT hZ (hw _ (List.mem_of_getElem? (i := 16) rfl))) (mvT hZ (hw _ (List.mem_of_getElem? (i := 15) rfl))) (by decide) (backOf (W := 0) (rm_self lL Z a0 hw [] b5_ p1 q2 T44_.heap n0 (Nat.le_trans Z0 K44_.1) fc46_ fc47_ fc48_) hZ (hw _ (List.mem_of_getElem? (i := 17) rfl)) (hw _ (List.mem_of_getElem? (i := 2) rfl)) (by decide) (by decide)) q50_a q50_c (g := (mkF mM 178 #[.val (.int p1), .val (.long q2), .second, .val (.int p3), .val (.long q4), .second, .val (.int p5), .val (.int s1_), .val (.int s2_), .val (.int kd), .val (.int a2), .val (.long l2), .second, .val (.ref b5_), .val (.ref b_44_), .val (.int (0 : Int32))] [(.ref b5_), (.ref b5_)])) rfl (by rw [hml]; rfl) (Steps.refl _) (argsL := [(.ref b5_)]) (rest := []) (lenOf own_pd3 rfl) rfl (by show 2 * 0 + _ ≤ _; exact Nat.le_of_eq rfl) (Jvm.hb hby at_178) (fun _ _ => ⟨rfl, p49__0, (by decide : 2 + 0 ≤ _), (by decide : 3 + 0 ≤ _)⟩)
        dsimp only [Pt.U, Pt.locs, Pt.cells, Pt.slots] at X50_ l50_ y50_ z50_ st50_ hQ50_
        subst l50_ y50_ z50_
        obtain ⟨rfl, N50_q, p50__0⟩ := hQ50_
        have N50_ := Fr.app N49_ N50_q
        refine own_fin (fun tT kK => st50_.trans kK) ?_
        show own_Fin pP eE below _ (T50_.setTop (mkF mM 181 #[.val (.int p1), .val (.long q2), .second, .val (.int p3), .val (.long q4), .second, .val (.int p5), .val (.int s1_), .val (.int s2_), .val (.int kd), .val (.int a2), .val (.long l2), .second, .val (.ref b5_), .val (.ref b_44_), .val (.int (0 : Int32))] [(.int (1 : Int32))]))
        refine own_fin (b := T50_.setTop (mkF mM 189 #[.val (.int p1), .val (.long q2), .second, .val (.int p3), .val (.long q4), .second, .val (.int p5), .val (.int s1_), .val (.int s2_), .val (.int kd), .val (.int a2), .val (.long l2), .second, .val (.ref b5_), .val (.ref b_44_), .val (.int (0 : Int32))] [(.int (1 : Int32))])) (fun tT kK => ?_) ?_
        · show Steps pP.tables eE below (T50_.setTop (mkF mM 181 #[.val (.int p1), .val (.long q2), .second, .val (.int p3), .val (.long q4), .second, .val (.int p5), .val (.int s1_), .val (.int s2_), .val (.int kd), .val (.int a2), .val (.long l2), .second, .val (.ref b5_), .val (.ref b_44_), .val (.int (0 : Int32))] [(.int (1 : Int32))])) tT
          refine XS.ifNo X50_.here hx rfl (Jvm.hb hby at_181) rfl ((if0 _ _).trans (feq ((by decide) : ¬ ((1 : Int32) = (0 : Int32)))).1) ?_
          show Steps pP.tables eE below (T50_.setTop (mkF mM 184 #[.val (.int p1), .val (.long q2), .second, .val (.int p3), .val (.long q4), .second, .val (.int p5), .val (.int s1_), .val (.int s2_), .val (.int kd), .val (.int a2), .val (.long l2), .second, .val (.ref b5_), .val (.ref b_44_), .val (.int (0 : Int32))] [])) tT
          refine XS.iconst X50_.here hx rfl (Jvm.hb hby at_184) ?_
          show Steps pP.tables eE below (T50_.setTop (mkF mM 185 #[.val (.int p1), .val (.long q2), .second, .val (.int p3), .val (.long q4), .second, .val (.int p5), .val (.int s1_), .val (.int s2_), .val (.int kd), .val (.int a2), .val (.long l2), .second, .val (.ref b5_), .val (.ref b_44_), .val (.int (0 : Int32))] [(.int (1 : Int32))])) tT
          refine XS.goto X50_.here hx rfl (pc0 := 185) (pc' := 189) rfl (Jvm.hb hby at_185) (by decide) (by decide) ?_
          show Steps pP.tables eE below (T50_.setTop (mkF mM 189 #[.val (.int p1), .val (.long q2), .second, .val (.int p3), .val (.long q4), .second, .val (.int p5), .val (.int s1_), .val (.int s2_), .val (.int kd), .val (.int a2), .val (.long l2), .second, .val (.ref b5_), .val (.ref b_44_), .val (.int (0 : Int32))] [(.int (1 : Int32))])) tT
          exact kK
        obtain ⟨fs, hr, hrun, hended, hW, hsame⟩ := X50_.leave (v := some (.int (1 : Int32))) (fun h => by rw [Bd.returns] at h; cases h)
        refine ⟨_, _, ?_, hrun, hended, _, _, rfl, ?_, ⟨_, rfl⟩, hW, hsame.mono (by decide) (by decide)⟩
        · show Steps pP.tables eE below (T50_.setTop (mkF mM 189 #[.val (.int p1), .val (.long q2), .second, .val (.int p3), .val (.long q4), .second, .val (.int p5), .val (.int s1_), .val (.int s2_), .val (.int kd), .val (.int a2), .val (.long l2), .second, .val (.ref b5_), .val (.ref b_44_), .val (.int (0 : Int32))] [(.int (1 : Int32))])) _
          exact retN X50_ hx (t := .boolean) Bd.returns (by simp) (Jvm.hb hby at_189) hr
        · show Q_rm0 Z p1 q2 p3 q4 p5 ca cc h0 n0 _ T50_.heap _
          rw [p50__0]
          exact ⟨rfl, N50_⟩
set_option maxRecDepth 65536 in
set_option maxHeartbeats 40000000 in
theorem comes_1 {Post : Tables → Env → Array Value → State → Outcome → State → Prop} (hpost : ∀ tb e args s v u, (limb_1_1.after args s (.returned v) u = true ∧ limb_1_2.after args s (.returned v) u = true ∧ True) → FrameEnd s (.returned v) u (Jvm.fieldLocs frame_1_writes args s ++ Jvm.arrayLocs frame_1_arrays args s ++ Jvm.staticLocs frame_1_statics s) 16 128 → Post tb e args s (.returned v) u) :
    ArmFor flags0 classFile x code maxLocals ret World_1 tables_1 room_1 Calls_1 rest_1 Pre_1 Post := by
  intro l hfl _ _ p e ha hc hk s m args below hf hA hF happ hP
  obtain ⟨hcalls, hrest, hpre⟩ := hP
  obtain ⟨-, -, -, hnamed, -, -, -, hat⟩ := (Spec.applies_iff hf).mp happ
  obtain ⟨hg, hn⟩ := and_e (Cond.before_iff.mp (show (Jvm.Cond.and given_1 narrow_1).before args s = true from hpre))
  obtain ⟨gg1, gg2⟩ := and_e hg
  obtain ⟨gg3, gg4⟩ := and_e gg2
  obtain ⟨gg5, gg6⟩ := and_e gg4
  obtain ⟨gg7, gg8⟩ := and_e gg6
  obtain ⟨gg9, gg10⟩ := and_e gg8
  obtain ⟨w0, w1, w2, w3, w4, rfl⟩ : ∃ w0 w1 w2 w3 w4 : Value, args = #[w0, w1, w2, w3, w4] := by
    have hs : args.size = 5 := by simpa [Cond.value, given_1] using gg1
    obtain ⟨L⟩ := args
    match L, hs with
    | [w0, w1, w2, w3, w4], _ => exact ⟨w0, w1, w2, w3, w4, rfl⟩
  have hw := fun d (hd : d ∈ tables_1) => atoms_spec (ws := Jvm.Cond.code x code maxLocals ret :: tables_1) hat d (List.mem_cons_of_mem _ hd)
  have hfit : Fit s := fun {y c} hc i hi => by
    obtain ⟨ha, rfl⟩ := Array.getElem?_eq_some_iff.mp hc
    have q := List.all_eq_true.mp ((Array.all_eq_true_iff_forall_mem.mp hF) _ (Array.getElem_mem ha)) i (List.mem_range.mpr hi)
    simpa [Array.getElem?_eq_getElem hi] using q
  obtain ⟨hsets, hown0⟩ := atoms_of _ (rest_1_c_eq ▸ (show rest_1_c.before _ s = true from hrest))
  have hr0 := Cond.before_iff.mp hown0
  obtain ⟨i0, ei0⟩ := is_v gg3
  obtain rfl : w0 = (.int i0) := Option.some.inj ei0
  obtain ⟨i1, ei1⟩ := isL_v gg5
  obtain rfl : w1 = (.long i1) := Option.some.inj ei1
  obtain ⟨i2, ei2⟩ := is_v gg7
  obtain rfl : w2 = (.int i2) := Option.some.inj ei2
  obtain ⟨i3, ei3⟩ := isL_v gg9
  obtain rfl : w3 = (.long i3) := Option.some.inj ei3
  obtain ⟨i4, ei4⟩ := is_v gg10
  obtain rfl : w4 = (.int i4) := Option.some.inj ei4
  obtain ⟨ca, cc, evc, hca⟩ := own_cache (hsets _ (List.mem_of_getElem? (i := 2) rfl)) (hsets _ (List.mem_of_getElem? (i := 4) rfl)) (hsets _ (List.mem_of_getElem? (i := 5) rfl))
  have hcs := Sta.start evc (Or.inl (hsets _ (List.mem_of_getElem? (i := 1) rfl)))
  obtain ⟨n, o, h1, h2, h3, _, L, rfl, ⟨rfl, N⟩, hq⟩ := rm0 l s _ hw tables_1 i0 i1 i2 i3 i4 ca cc s.heap s.heap.size (Nat.le_refl _) (Old.start s) hca hcs p e ha hc hk s m _ below hf ((Spec.applies_iff_loose hf).mp happ).1 ⟨rfl, State.Warmed39.refl s, rfl⟩ trivial
  refine ⟨n, _, h1, h2, h3, hpost _ _ _ _ _ _ ⟨Cond.after_iff.mpr rfl, Cond.after_iff.mpr (eq_i res_at (Term.int_eval (1)) rfl), trivial⟩ ⟨hq.1, hq.2.1, (hq.2.2.sift fun y hy => Or.inr (N y hy)).mono (by decide) (by decide)⟩⟩
theorem main_1_1 : Claimed_1_1 := comes_1 fun _ _ _ _ _ _ h hF => ⟨h.1, hF⟩
theorem main_1_2 : Claimed_1_2 := comes_1 fun _ _ _ _ _ _ h hF => ⟨h.2.1, hF⟩
end Jvm.Pilot.@@N@@
namespace Jvm.Pilot.@@N@@
open Jvm Jvm.ClassFile Sem Op Lib Jvm.Free Jvm.Stand Jvm.Pilot.@@N@@.Jvm.D
/-! MADE BY PROGRAM (witnessworld.py) out of the Statement's table words and the real class files: 19 classes; the members and pool entries that the words name. The judged class is class 1, her method 1. -/
namespace start1
open Jvm.ClassFile
def u (s : String) : CpInfo := .utf8 (stringToUtf16 s)
/-- a pool by its gaps: so many unusable entries, then the entry; so many at the end -/
def gap : Nat → List CpInfo → List CpInfo
  | 0, r => r
  | n + 1, r => .unusable :: gap n r
def poolList (es : List (Nat × CpInfo)) (last : Nat) : List CpInfo := es.foldr (fun e r => gap e.1 (e.2 :: r)) (gap last [])
def pool (es : List (Nat × CpInfo)) (last : Nat) : Array CpInfo := ⟨poolList es last⟩
def fileOf (pool : Array CpInfo) (this : Nat) (attrs : Array Attribute := #[]) (ms : Array MethodInfo := #[]) (fl : Nat := 33) (sup : Nat := 0) (ifs : Array Nat := #[]) (fds : Array FieldInfo := #[]) : ClassFile where
  minorVersion := 0
  majorVersion := 65
  constantPool := pool
  accessFlags := fl
  thisClass := this
  superClass := sup
  interfaces := ifs
  fields := fds
  methods := ms
  attributes := attrs
def plain (name : String) (sup : Option ClassId) : Class where
  name := name
  kind := .ordinary
  loader := none
  accessFlags := 33
  super := sup
  interfaces := #[]
  cf := none
  fields := #[]
  methods := #[]
  instanceTypes := #[]
  staticTypes := #[]
  resolved := #[]
  callSites := []
  init := .initialized
  statics := none
  mirror := none

def pool0 : Array CpInfo := pool [(5, u "<init>"), (0, u "()V"), (1, .class_ 10), (1, u "java/lang/Object")] 113

def k0c0 : Code := { maxStack := 0, maxLocals := 1, code := object_method_1_code, exceptionTable := #[], attributes := #[] }
def k0m0 : Method := { name := "<init>", desc := "()V", sig := { parameters := [], returnType := none }, accessFlags := 1, code := some k0c0 }
/-- java/lang/Object -/
def k0 : Class := { plain "java/lang/Object" none with
  accessFlags := 33
  interfaces := #[]
  cf := some (fileOf pool0 8 #[] #[{ accessFlags := 1, nameIndex := 5, descriptorIndex := 6, attributes := #[] }] 33 0 #[] #[])
  fields := #[]
  methods := #[k0m0]
  instanceTypes := #[]
  staticTypes := #[]
  resolved := Array.replicate 124 none
  statics := none }

def pool1 : Array CpInfo := pool [(2, .class_ 4), (1, u "java/lang/Object"), (0, u "<init>"), (0, u "()V"), (0, .class_ 8), (0, u "com/example/epoch/epoch/Accepted"), (0, .methodref 7 10), (0, .nameAndType 5 11), (0, u "(IJ)V"), (0, .class_ 13), (0, u "com/example/epoch/epoch/Superseded"), (0, .methodref 12 15), (0, .nameAndType 5 16), (0, u "(JLjava/lang/String;)V"), (0, .methodref 18 19), (0, .class_ 20), (0, .nameAndType 21 22), (0, u "java/lang/Long"), (0, u "valueOf"), (0, u "(J)Ljava/lang/Long;"), (0, .methodref 7 24), (0, .nameAndType 25 26), (0, u "equals"), (0, u "(Ljava/lang/Object;)Z"), (0, .class_ 28), (0, u "com/example/epoch/epoch/AcceptedEqualsPinLaw"), (2, u "law"), (0, u "(IJIJI)Z")] 3

def k1m0 : Method := { name := "<init>", desc := "()V", sig := { parameters := [], returnType := none }, accessFlags := 1, code := none }
def k1c1 : Code := { maxStack := 5, maxLocals := 16, code := code, exceptionTable := #[], attributes := #[] }
def k1m1 : Method := { name := "law", desc := "(IJIJI)Z", sig := { parameters := [.int, .long, .int, .long, .int], returnType := some .boolean }, accessFlags := 9, code := some k1c1 }
/-- com/example/epoch/epoch/AcceptedEqualsPinLaw -/
def k1 : Class := { plain "com/example/epoch/epoch/AcceptedEqualsPinLaw" (some 0) with
  accessFlags := 49
  interfaces := #[]
  cf := some (fileOf pool1 27 #[] #[{ accessFlags := 1, nameIndex := 5, descriptorIndex := 6, attributes := #[] }, { accessFlags := 9, nameIndex := 31, descriptorIndex := 32, attributes := #[] }] 49 2 #[] #[])
  fields := #[]
  methods := #[k1m0, k1m1]
  instanceTypes := #[]
  staticTypes := #[]
  resolved := Array.replicate 36 none
  statics := none }

def pool2 : Array CpInfo := pool [(1, .class_ 2), (0, u "com/example/epoch/epoch/CommitResult"), (0, .class_ 4), (0, u "java/lang/Object")] 7

/-- com/example/epoch/epoch/CommitResult -/
def k2 : Class := { plain "com/example/epoch/epoch/CommitResult" (some 0) with
  accessFlags := 1537
  interfaces := #[]
  cf := some (fileOf pool2 1 #[] #[] 1537 3 #[] #[])
  fields := #[]
  methods := #[]
  instanceTypes := #[]
  staticTypes := #[]
  resolved := Array.replicate 12 none
  statics := none }

def pool3 : Array CpInfo := pool [(1, .methodref 2 3), (0, .class_ 4), (0, .nameAndType 5 6), (0, u "java/lang/Object"), (0, u "<init>"), (0, u "()V"), (0, .fieldref 8 9), (0, .class_ 10), (0, .nameAndType 11 12), (0, u "com/example/epoch/epoch/Accepted"), (0, u "appended"), (0, u "I"), (0, .fieldref 8 14), (0, .nameAndType 15 16), (0, u "lastSequence"), (0, u "J"), (21, .class_ 39), (0, u "com/example/epoch/epoch/CommitResult"), (0, u "(IJ)V"), (4, u "equals"), (0, u "(Ljava/lang/Object;)Z")] 21

def k3c0 : Code := { maxStack := 3, maxLocals := 4, code := prog_1_method_1_code, exceptionTable := #[], attributes := #[] }
def k3m0 : Method := { name := "<init>", desc := "(IJ)V", sig := { parameters := [.int, .long], returnType := none }, accessFlags := 0, code := some k3c0 }
def k3c1 : Code := { maxStack := 4, maxLocals := 3, code := prog_1_method_4_code, exceptionTable := #[], attributes := #[] }
def k3m1 : Method := { name := "equals", desc := "(Ljava/lang/Object;)Z", sig := { parameters := [(.object "java/lang/Object")], returnType := some .boolean }, accessFlags := 1, code := some k3c1 }
/-- com/example/epoch/epoch/Accepted -/
def k3 : Class := { plain "com/example/epoch/epoch/Accepted" (some 0) with
  accessFlags := 49
  interfaces := #[2]
  cf := some (fileOf pool3 8 #[] #[{ accessFlags := 0, nameIndex := 5, descriptorIndex := 40, attributes := #[] }, { accessFlags := 1, nameIndex := 45, descriptorIndex := 46, attributes := #[] }] 49 2 #[38] #[{ accessFlags := 18, nameIndex := 11, descriptorIndex := 12, attributes := #[] }, { accessFlags := 18, nameIndex := 15, descriptorIndex := 16, attributes := #[] }])
  fields := #[{ name := "appended", type := .int, accessFlags := 18, slot := 0, constantValue := 0 }, { name := "lastSequence", type := .long, accessFlags := 18, slot := 1, constantValue := 0 }]
  methods := #[k3m0, k3m1]
  instanceTypes := #[.int, .long]
  staticTypes := #[]
  resolved := Array.replicate 68 none
  statics := none }

def pool4 : Array CpInfo := pool [(1, .class_ 2), (0, u "com/example/epoch/epoch/SnapshotResult"), (0, .class_ 4), (0, u "java/lang/Object")] 11

/-- com/example/epoch/epoch/SnapshotResult -/
def k4 : Class := { plain "com/example/epoch/epoch/SnapshotResult" (some 0) with
  accessFlags := 1537
  interfaces := #[]
  cf := some (fileOf pool4 1 #[] #[] 1537 3 #[] #[])
  fields := #[]
  methods := #[]
  instanceTypes := #[]
  staticTypes := #[]
  resolved := Array.replicate 16 none
  statics := none }

def pool5 : Array CpInfo := pool [(1, .methodref 2 3), (0, .class_ 4), (0, .nameAndType 5 6), (0, u "java/lang/Object"), (0, u "<init>"), (0, u "()V"), (0, .fieldref 8 9), (0, .class_ 10), (0, .nameAndType 11 12), (0, u "com/example/epoch/epoch/Superseded"), (0, u "epoch"), (0, u "J"), (0, .fieldref 8 14), (0, .nameAndType 15 16), (0, u "contact"), (0, u "Ljava/lang/String;"), (26, .class_ 44), (0, u "com/example/epoch/epoch/CommitResult"), (0, .class_ 46), (0, u "com/example/epoch/epoch/SnapshotResult"), (0, u "(JLjava/lang/String;)V")] 29

def k5c0 : Code := { maxStack := 3, maxLocals := 4, code := prog_30_method_1_code, exceptionTable := #[], attributes := #[] }
def k5m0 : Method := { name := "<init>", desc := "(JLjava/lang/String;)V", sig := { parameters := [.long, (.object "java/lang/String")], returnType := none }, accessFlags := 0, code := some k5c0 }
/-- com/example/epoch/epoch/Superseded -/
def k5 : Class := { plain "com/example/epoch/epoch/Superseded" (some 0) with
  accessFlags := 49
  interfaces := #[2, 4]
  cf := some (fileOf pool5 8 #[] #[{ accessFlags := 0, nameIndex := 5, descriptorIndex := 47, attributes := #[] }] 49 2 #[43, 45] #[{ accessFlags := 18, nameIndex := 11, descriptorIndex := 12, attributes := #[] }, { accessFlags := 18, nameIndex := 15, descriptorIndex := 16, attributes := #[] }])
  fields := #[{ name := "epoch", type := .long, accessFlags := 18, slot := 0, constantValue := 0 }, { name := "contact", type := (.object "java/lang/String"), accessFlags := 18, slot := 1, constantValue := 0 }]
  methods := #[k5m0]
  instanceTypes := #[.long, (.object "java/lang/String")]
  staticTypes := #[]
  resolved := Array.replicate 77 none
  statics := none }

def pool6 : Array CpInfo := pool [(1, .class_ 2), (0, u "java/io/Serializable"), (0, .class_ 4), (0, u "java/lang/Object")] 2

/-- java/io/Serializable -/
def k6 : Class := { plain "java/io/Serializable" (some 0) with
  accessFlags := 1537
  interfaces := #[]
  cf := some (fileOf pool6 1 #[] #[] 1537 3 #[] #[])
  fields := #[]
  methods := #[]
  instanceTypes := #[]
  staticTypes := #[]
  resolved := Array.replicate 7 none
  statics := none }

def pool7 : Array CpInfo := pool [(1, .methodref 2 3), (0, .class_ 4), (0, .nameAndType 5 6), (0, u "java/lang/Object"), (0, u "<init>"), (0, u "()V"), (1, .class_ 10), (1, u "java/lang/Number"), (2, .class_ 14), (0, u "java/io/Serializable"), (0, u "serialVersionUID"), (0, u "J")] 20

def k7c0 : Code := { maxStack := 1, maxLocals := 1, code := jdk_18_method_1_code, exceptionTable := #[], attributes := #[] }
def k7m0 : Method := { name := "<init>", desc := "()V", sig := { parameters := [], returnType := none }, accessFlags := 1, code := some k7c0 }
/-- java/lang/Number -/
def k7 : Class := { plain "java/lang/Number" (some 0) with
  accessFlags := 1057
  interfaces := #[6]
  cf := some (fileOf pool7 8 #[] #[{ accessFlags := 1, nameIndex := 5, descriptorIndex := 6, attributes := #[] }] 1057 2 #[13] #[{ accessFlags := 26, nameIndex := 15, descriptorIndex := 16, attributes := #[] }])
  fields := #[{ name := "serialVersionUID", type := .long, accessFlags := 26, slot := 0, constantValue := 0 }]
  methods := #[k7m0]
  instanceTypes := #[]
  staticTypes := #[.long]
  resolved := Array.replicate 37 none
  statics := none }

def pool8 : Array CpInfo := pool [(1, .class_ 2), (0, u "java/lang/Comparable"), (0, .class_ 4), (0, u "java/lang/Object")] 7

/-- java/lang/Comparable -/
def k8 : Class := { plain "java/lang/Comparable" (some 0) with
  accessFlags := 1537
  interfaces := #[]
  cf := some (fileOf pool8 1 #[] #[] 1537 3 #[] #[])
  fields := #[]
  methods := #[]
  instanceTypes := #[]
  staticTypes := #[]
  resolved := Array.replicate 12 none
  statics := none }

def pool9 : Array CpInfo := pool [(1, .class_ 2), (0, u "java/lang/constant/Constable"), (0, .class_ 4), (0, u "java/lang/Object")] 6

/-- java/lang/constant/Constable -/
def k9 : Class := { plain "java/lang/constant/Constable" (some 0) with
  accessFlags := 1537
  interfaces := #[]
  cf := some (fileOf pool9 1 #[] #[] 1537 3 #[] #[])
  fields := #[]
  methods := #[]
  instanceTypes := #[]
  staticTypes := #[]
  resolved := Array.replicate 11 none
  statics := none }

def pool10 : Array CpInfo := pool [(1, .class_ 2), (0, u "java/lang/constant/ConstantDesc"), (0, .class_ 4), (0, u "java/lang/Object")] 32

/-- java/lang/constant/ConstantDesc -/
def k10 : Class := { plain "java/lang/constant/ConstantDesc" (some 0) with
  accessFlags := 1537
  interfaces := #[]
  cf := some (fileOf pool10 1 #[] #[] 1537 3 #[] #[])
  fields := #[]
  methods := #[]
  instanceTypes := #[]
  staticTypes := #[]
  resolved := Array.replicate 37 none
  statics := none }

def pool11 : Array CpInfo := pool [(1, .class_ 2), (0, u "java/lang/Long"), (55, .nameAndType 59 60), (0, u "<init>"), (0, u "()V"), (24, u "valueOf"), (143, u "(J)Ljava/lang/Long;"), (0, .long 18446744073709551488), (1, .long 127), (1, .fieldref 235 236), (0, .class_ 237), (0, .nameAndType 238 239), (0, u "java/lang/Long$LongCache"), (0, u "cache"), (0, u "[Ljava/lang/Long;"), (0, .methodref 1 241), (0, .nameAndType 59 242), (0, u "(J)V"), (27, .methodref 271 58), (0, .class_ 272), (0, u "java/lang/Number"), (0, .fieldref 1 274), (0, .nameAndType 275 276), (0, u "value"), (0, u "J"), (84, u "TYPE"), (0, u "Ljava/lang/Class;"), (0, .class_ 364), (0, u "java/lang/Comparable"), (0, .class_ 366), (0, u "java/lang/constant/Constable"), (0, .class_ 368), (0, u "java/lang/constant/ConstantDesc"), (0, u "MIN_VALUE"), (1, u "MAX_VALUE"), (4, u "SIZE"), (0, u "I"), (1, u "BYTES"), (1, u "serialVersionUID")] 142

def k11c0 : Code := { maxStack := 4, maxLocals := 3, code := jdk_35_method_24_code, exceptionTable := #[], attributes := #[] }
def k11m0 : Method := { name := "valueOf", desc := "(J)Ljava/lang/Long;", sig := { parameters := [.long], returnType := some (.object "java/lang/Long") }, accessFlags := 9, code := some k11c0 }
def k11c1 : Code := { maxStack := 3, maxLocals := 3, code := jdk_35_method_26_code, exceptionTable := #[], attributes := #[] }
def k11m1 : Method := { name := "<init>", desc := "(J)V", sig := { parameters := [.long], returnType := none }, accessFlags := 1, code := some k11c1 }
/-- java/lang/Long -/
def k11 : Class := { plain "java/lang/Long" (some 7) with
  accessFlags := 49
  interfaces := #[8, 9, 10]
  cf := some (fileOf pool11 1 #[.nestMembers #[235]] #[{ accessFlags := 9, nameIndex := 85, descriptorIndex := 229, attributes := #[] }, { accessFlags := 1, nameIndex := 59, descriptorIndex := 242, attributes := #[] }] 49 271 #[363, 365, 367] #[{ accessFlags := 25, nameIndex := 369, descriptorIndex := 276, attributes := #[] }, { accessFlags := 25, nameIndex := 371, descriptorIndex := 276, attributes := #[] }, { accessFlags := 25, nameIndex := 361, descriptorIndex := 362, attributes := #[] }, { accessFlags := 18, nameIndex := 275, descriptorIndex := 276, attributes := #[] }, { accessFlags := 25, nameIndex := 376, descriptorIndex := 377, attributes := #[] }, { accessFlags := 25, nameIndex := 379, descriptorIndex := 377, attributes := #[] }, { accessFlags := 26, nameIndex := 381, descriptorIndex := 276, attributes := #[] }])
  fields := #[{ name := "MIN_VALUE", type := .long, accessFlags := 25, slot := 0, constantValue := 0 }, { name := "MAX_VALUE", type := .long, accessFlags := 25, slot := 1, constantValue := 0 }, { name := "TYPE", type := (.object "java/lang/Class"), accessFlags := 25, slot := 2, constantValue := 0 }, { name := "value", type := .long, accessFlags := 18, slot := 0, constantValue := 0 }, { name := "SIZE", type := .int, accessFlags := 25, slot := 3, constantValue := 0 }, { name := "BYTES", type := .int, accessFlags := 25, slot := 4, constantValue := 0 }, { name := "serialVersionUID", type := .long, accessFlags := 26, slot := 5, constantValue := 0 }]
  methods := #[k11m0, k11m1]
  instanceTypes := #[.long]
  staticTypes := #[.long, .long, (.object "java/lang/Class"), .int, .int, .long]
  resolved := Array.replicate 524 none
  statics := none }

def pool12 : Array CpInfo := pool [(2, .class_ 4), (1, u "java/lang/Object"), (0, u "<init>"), (0, u "()V"), (0, .class_ 8), (0, u "java/lang/Long"), (7, .class_ 18), (1, u "java/lang/Long$LongCache"), (0, u "$assertionsDisabled"), (0, u "Z"), (8, u "archivedCache"), (0, u "[Ljava/lang/Long;"), (7, u "cache")] 24

def k12m0 : Method := { name := "<init>", desc := "()V", sig := { parameters := [], returnType := none }, accessFlags := 2, code := none }
/-- java/lang/Long$LongCache -/
def k12 : Class := { plain "java/lang/Long$LongCache" (some 0) with
  accessFlags := 48
  interfaces := #[]
  cf := some (fileOf pool12 16 #[.nestHost 7] #[{ accessFlags := 2, nameIndex := 5, descriptorIndex := 6, attributes := #[] }] 48 2 #[] #[{ accessFlags := 24, nameIndex := 38, descriptorIndex := 30, attributes := #[] }, { accessFlags := 8, nameIndex := 29, descriptorIndex := 30, attributes := #[] }, { accessFlags := 4120, nameIndex := 19, descriptorIndex := 20, attributes := #[] }])
  fields := #[{ name := "cache", type := (.array (.object "java/lang/Long")), accessFlags := 24, slot := 0, constantValue := 0 }, { name := "archivedCache", type := (.array (.object "java/lang/Long")), accessFlags := 8, slot := 1, constantValue := 0 }, { name := "$assertionsDisabled", type := .boolean, accessFlags := 4120, slot := 2, constantValue := 0 }]
  methods := #[k12m0]
  instanceTypes := #[]
  staticTypes := #[(.array (.object "java/lang/Long")), (.array (.object "java/lang/Long")), .boolean]
  resolved := Array.replicate 63 none
  statics := some 0 }

def pool13 : Array CpInfo := pool [(1, u "java/lang/Cloneable"), (0, .class_ 1), (0, u "java/lang/Object"), (0, .class_ 3)] 3

/-- java/lang/Cloneable -/
def k13 : Class := { plain "java/lang/Cloneable" (some 0) with
  accessFlags := 1537
  interfaces := #[]
  cf := some (fileOf pool13 2 #[] #[] 1537 4 #[] #[])
  fields := #[]
  methods := #[]
  instanceTypes := #[]
  staticTypes := #[]
  resolved := Array.replicate 8 none
  statics := none }

/-- the primitive byte -/
def k14 : Class := { plain "byte" none with kind := .primitive 'B', accessFlags := 0x411 }
/-- [B -/
def k15 : Class := { plain "[B" (some 0) with kind := .array 14 .byte, interfaces := #[13, 6], accessFlags := 1041 }

/-- the primitive int -/
def k16 : Class := { plain "int" none with kind := .primitive 'I', accessFlags := 0x411 }
/-- [I -/
def k17 : Class := { plain "[I" (some 0) with kind := .array 16 .int, interfaces := #[13, 6], accessFlags := 1041 }

/-- [Ljava/lang/Long; -/
def k18 : Class := { plain "[Ljava/lang/Long;" (some 0) with kind := .array 11 (.object "java/lang/Long"), interfaces := #[13, 6], accessFlags := 1041 }

def heap : Heap := #[{ cls := 12, slots := #[.ref 1, .null, .int 0], vm := .statics 12 },
  { cls := 18, slots := #[.ref 2, .ref 3, .ref 4, .ref 5, .ref 6, .ref 7, .ref 8, .ref 9, .ref 10, .ref 11, .ref 12, .ref 13, .ref 14, .ref 15, .ref 16, .ref 17, .ref 18, .ref 19, .ref 20, .ref 21, .ref 22, .ref 23, .ref 24, .ref 25, .ref 26, .ref 27, .ref 28, .ref 29, .ref 30, .ref 31, .ref 32, .ref 33, .ref 34, .ref 35, .ref 36, .ref 37, .ref 38, .ref 39, .ref 40, .ref 41, .ref 42, .ref 43, .ref 44, .ref 45, .ref 46, .ref 47, .ref 48, .ref 49, .ref 50, .ref 51, .ref 52, .ref 53, .ref 54, .ref 55, .ref 56, .ref 57, .ref 58, .ref 59, .ref 60, .ref 61, .ref 62, .ref 63, .ref 64, .ref 65, .ref 66, .ref 67, .ref 68, .ref 69, .ref 70, .ref 71, .ref 72, .ref 73, .ref 74, .ref 75, .ref 76, .ref 77, .ref 78, .ref 79, .ref 80, .ref 81, .ref 82, .ref 83, .ref 84, .ref 85, .ref 86, .ref 87, .ref 88, .ref 89, .ref 90, .ref 91, .ref 92, .ref 93, .ref 94, .ref 95, .ref 96, .ref 97, .ref 98, .ref 99, .ref 100, .ref 101, .ref 102, .ref 103, .ref 104, .ref 105, .ref 106, .ref 107, .ref 108, .ref 109, .ref 110, .ref 111, .ref 112, .ref 113, .ref 114, .ref 115, .ref 116, .ref 117, .ref 118, .ref 119, .ref 120, .ref 121, .ref 122, .ref 123, .ref 124, .ref 125, .ref 126, .ref 127, .ref 128, .ref 129, .ref 130, .ref 131, .ref 132, .ref 133, .ref 134, .ref 135, .ref 136, .ref 137, .ref 138, .ref 139, .ref 140, .ref 141, .ref 142, .ref 143, .ref 144, .ref 145, .ref 146, .ref 147, .ref 148, .ref 149, .ref 150, .ref 151, .ref 152, .ref 153, .ref 154, .ref 155, .ref 156, .ref 157, .ref 158, .ref 159, .ref 160, .ref 161, .ref 162, .ref 163, .ref 164, .ref 165, .ref 166, .ref 167, .ref 168, .ref 169, .ref 170, .ref 171, .ref 172, .ref 173, .ref 174, .ref 175, .ref 176, .ref 177, .ref 178, .ref 179, .ref 180, .ref 181, .ref 182, .ref 183, .ref 184, .ref 185, .ref 186, .ref 187, .ref 188, .ref 189, .ref 190, .ref 191, .ref 192, .ref 193, .ref 194, .ref 195, .ref 196, .ref 197, .ref 198, .ref 199, .ref 200, .ref 201, .ref 202, .ref 203, .ref 204, .ref 205, .ref 206, .ref 207, .ref 208, .ref 209, .ref 210, .ref 211, .ref 212, .ref 213, .ref 214, .ref 215, .ref 216, .ref 217, .ref 218, .ref 219, .ref 220, .ref 221, .ref 222, .ref 223, .ref 224, .ref 225, .ref 226, .ref 227, .ref 228, .ref 229, .ref 230, .ref 231, .ref 232, .ref 233, .ref 234, .ref 235, .ref 236, .ref 237, .ref 238, .ref 239, .ref 240, .ref 241, .ref 242, .ref 243, .ref 244, .ref 245, .ref 246, .ref 247, .ref 248, .ref 249, .ref 250, .ref 251, .ref 252, .ref 253, .ref 254, .ref 255, .ref 256, .ref 257], vm := .none },
  { cls := 11, slots := #[.long (-128)], vm := .none },
  { cls := 11, slots := #[.long (-127)], vm := .none },
  { cls := 11, slots := #[.long (-126)], vm := .none },
  { cls := 11, slots := #[.long (-125)], vm := .none },
  { cls := 11, slots := #[.long (-124)], vm := .none },
  { cls := 11, slots := #[.long (-123)], vm := .none },
  { cls := 11, slots := #[.long (-122)], vm := .none },
  { cls := 11, slots := #[.long (-121)], vm := .none },
  { cls := 11, slots := #[.long (-120)], vm := .none },
  { cls := 11, slots := #[.long (-119)], vm := .none },
  { cls := 11, slots := #[.long (-118)], vm := .none },
  { cls := 11, slots := #[.long (-117)], vm := .none },
  { cls := 11, slots := #[.long (-116)], vm := .none },
  { cls := 11, slots := #[.long (-115)], vm := .none },
  { cls := 11, slots := #[.long (-114)], vm := .none },
  { cls := 11, slots := #[.long (-113)], vm := .none },
  { cls := 11, slots := #[.long (-112)], vm := .none },
  { cls := 11, slots := #[.long (-111)], vm := .none },
  { cls := 11, slots := #[.long (-110)], vm := .none },
  { cls := 11, slots := #[.long (-109)], vm := .none },
  { cls := 11, slots := #[.long (-108)], vm := .none },
  { cls := 11, slots := #[.long (-107)], vm := .none },
  { cls := 11, slots := #[.long (-106)], vm := .none },
  { cls := 11, slots := #[.long (-105)], vm := .none },
  { cls := 11, slots := #[.long (-104)], vm := .none },
  { cls := 11, slots := #[.long (-103)], vm := .none },
  { cls := 11, slots := #[.long (-102)], vm := .none },
  { cls := 11, slots := #[.long (-101)], vm := .none },
  { cls := 11, slots := #[.long (-100)], vm := .none },
  { cls := 11, slots := #[.long (-99)], vm := .none },
  { cls := 11, slots := #[.long (-98)], vm := .none },
  { cls := 11, slots := #[.long (-97)], vm := .none },
  { cls := 11, slots := #[.long (-96)], vm := .none },
  { cls := 11, slots := #[.long (-95)], vm := .none },
  { cls := 11, slots := #[.long (-94)], vm := .none },
  { cls := 11, slots := #[.long (-93)], vm := .none },
  { cls := 11, slots := #[.long (-92)], vm := .none },
  { cls := 11, slots := #[.long (-91)], vm := .none },
  { cls := 11, slots := #[.long (-90)], vm := .none },
  { cls := 11, slots := #[.long (-89)], vm := .none },
  { cls := 11, slots := #[.long (-88)], vm := .none },
  { cls := 11, slots := #[.long (-87)], vm := .none },
  { cls := 11, slots := #[.long (-86)], vm := .none },
  { cls := 11, slots := #[.long (-85)], vm := .none },
  { cls := 11, slots := #[.long (-84)], vm := .none },
  { cls := 11, slots := #[.long (-83)], vm := .none },
  { cls := 11, slots := #[.long (-82)], vm := .none },
  { cls := 11, slots := #[.long (-81)], vm := .none },
  { cls := 11, slots := #[.long (-80)], vm := .none },
  { cls := 11, slots := #[.long (-79)], vm := .none },
  { cls := 11, slots := #[.long (-78)], vm := .none },
  { cls := 11, slots := #[.long (-77)], vm := .none },
  { cls := 11, slots := #[.long (-76)], vm := .none },
  { cls := 11, slots := #[.long (-75)], vm := .none },
  { cls := 11, slots := #[.long (-74)], vm := .none },
  { cls := 11, slots := #[.long (-73)], vm := .none },
  { cls := 11, slots := #[.long (-72)], vm := .none },
  { cls := 11, slots := #[.long (-71)], vm := .none },
  { cls := 11, slots := #[.long (-70)], vm := .none },
  { cls := 11, slots := #[.long (-69)], vm := .none },
  { cls := 11, slots := #[.long (-68)], vm := .none },
  { cls := 11, slots := #[.long (-67)], vm := .none },
  { cls := 11, slots := #[.long (-66)], vm := .none },
  { cls := 11, slots := #[.long (-65)], vm := .none },
  { cls := 11, slots := #[.long (-64)], vm := .none },
  { cls := 11, slots := #[.long (-63)], vm := .none },
  { cls := 11, slots := #[.long (-62)], vm := .none },
  { cls := 11, slots := #[.long (-61)], vm := .none },
  { cls := 11, slots := #[.long (-60)], vm := .none },
  { cls := 11, slots := #[.long (-59)], vm := .none },
  { cls := 11, slots := #[.long (-58)], vm := .none },
  { cls := 11, slots := #[.long (-57)], vm := .none },
  { cls := 11, slots := #[.long (-56)], vm := .none },
  { cls := 11, slots := #[.long (-55)], vm := .none },
  { cls := 11, slots := #[.long (-54)], vm := .none },
  { cls := 11, slots := #[.long (-53)], vm := .none },
  { cls := 11, slots := #[.long (-52)], vm := .none },
  { cls := 11, slots := #[.long (-51)], vm := .none },
  { cls := 11, slots := #[.long (-50)], vm := .none },
  { cls := 11, slots := #[.long (-49)], vm := .none },
  { cls := 11, slots := #[.long (-48)], vm := .none },
  { cls := 11, slots := #[.long (-47)], vm := .none },
  { cls := 11, slots := #[.long (-46)], vm := .none },
  { cls := 11, slots := #[.long (-45)], vm := .none },
  { cls := 11, slots := #[.long (-44)], vm := .none },
  { cls := 11, slots := #[.long (-43)], vm := .none },
  { cls := 11, slots := #[.long (-42)], vm := .none },
  { cls := 11, slots := #[.long (-41)], vm := .none },
  { cls := 11, slots := #[.long (-40)], vm := .none },
  { cls := 11, slots := #[.long (-39)], vm := .none },
  { cls := 11, slots := #[.long (-38)], vm := .none },
  { cls := 11, slots := #[.long (-37)], vm := .none },
  { cls := 11, slots := #[.long (-36)], vm := .none },
  { cls := 11, slots := #[.long (-35)], vm := .none },
  { cls := 11, slots := #[.long (-34)], vm := .none },
  { cls := 11, slots := #[.long (-33)], vm := .none },
  { cls := 11, slots := #[.long (-32)], vm := .none },
  { cls := 11, slots := #[.long (-31)], vm := .none },
  { cls := 11, slots := #[.long (-30)], vm := .none },
  { cls := 11, slots := #[.long (-29)], vm := .none },
  { cls := 11, slots := #[.long (-28)], vm := .none },
  { cls := 11, slots := #[.long (-27)], vm := .none },
  { cls := 11, slots := #[.long (-26)], vm := .none },
  { cls := 11, slots := #[.long (-25)], vm := .none },
  { cls := 11, slots := #[.long (-24)], vm := .none },
  { cls := 11, slots := #[.long (-23)], vm := .none },
  { cls := 11, slots := #[.long (-22)], vm := .none },
  { cls := 11, slots := #[.long (-21)], vm := .none },
  { cls := 11, slots := #[.long (-20)], vm := .none },
  { cls := 11, slots := #[.long (-19)], vm := .none },
  { cls := 11, slots := #[.long (-18)], vm := .none },
  { cls := 11, slots := #[.long (-17)], vm := .none },
  { cls := 11, slots := #[.long (-16)], vm := .none },
  { cls := 11, slots := #[.long (-15)], vm := .none },
  { cls := 11, slots := #[.long (-14)], vm := .none },
  { cls := 11, slots := #[.long (-13)], vm := .none },
  { cls := 11, slots := #[.long (-12)], vm := .none },
  { cls := 11, slots := #[.long (-11)], vm := .none },
  { cls := 11, slots := #[.long (-10)], vm := .none },
  { cls := 11, slots := #[.long (-9)], vm := .none },
  { cls := 11, slots := #[.long (-8)], vm := .none },
  { cls := 11, slots := #[.long (-7)], vm := .none },
  { cls := 11, slots := #[.long (-6)], vm := .none },
  { cls := 11, slots := #[.long (-5)], vm := .none },
  { cls := 11, slots := #[.long (-4)], vm := .none },
  { cls := 11, slots := #[.long (-3)], vm := .none },
  { cls := 11, slots := #[.long (-2)], vm := .none },
  { cls := 11, slots := #[.long (-1)], vm := .none },
  { cls := 11, slots := #[.long 0], vm := .none },
  { cls := 11, slots := #[.long 1], vm := .none },
  { cls := 11, slots := #[.long 2], vm := .none },
  { cls := 11, slots := #[.long 3], vm := .none },
  { cls := 11, slots := #[.long 4], vm := .none },
  { cls := 11, slots := #[.long 5], vm := .none },
  { cls := 11, slots := #[.long 6], vm := .none },
  { cls := 11, slots := #[.long 7], vm := .none },
  { cls := 11, slots := #[.long 8], vm := .none },
  { cls := 11, slots := #[.long 9], vm := .none },
  { cls := 11, slots := #[.long 10], vm := .none },
  { cls := 11, slots := #[.long 11], vm := .none },
  { cls := 11, slots := #[.long 12], vm := .none },
  { cls := 11, slots := #[.long 13], vm := .none },
  { cls := 11, slots := #[.long 14], vm := .none },
  { cls := 11, slots := #[.long 15], vm := .none },
  { cls := 11, slots := #[.long 16], vm := .none },
  { cls := 11, slots := #[.long 17], vm := .none },
  { cls := 11, slots := #[.long 18], vm := .none },
  { cls := 11, slots := #[.long 19], vm := .none },
  { cls := 11, slots := #[.long 20], vm := .none },
  { cls := 11, slots := #[.long 21], vm := .none },
  { cls := 11, slots := #[.long 22], vm := .none },
  { cls := 11, slots := #[.long 23], vm := .none },
  { cls := 11, slots := #[.long 24], vm := .none },
  { cls := 11, slots := #[.long 25], vm := .none },
  { cls := 11, slots := #[.long 26], vm := .none },
  { cls := 11, slots := #[.long 27], vm := .none },
  { cls := 11, slots := #[.long 28], vm := .none },
  { cls := 11, slots := #[.long 29], vm := .none },
  { cls := 11, slots := #[.long 30], vm := .none },
  { cls := 11, slots := #[.long 31], vm := .none },
  { cls := 11, slots := #[.long 32], vm := .none },
  { cls := 11, slots := #[.long 33], vm := .none },
  { cls := 11, slots := #[.long 34], vm := .none },
  { cls := 11, slots := #[.long 35], vm := .none },
  { cls := 11, slots := #[.long 36], vm := .none },
  { cls := 11, slots := #[.long 37], vm := .none },
  { cls := 11, slots := #[.long 38], vm := .none },
  { cls := 11, slots := #[.long 39], vm := .none },
  { cls := 11, slots := #[.long 40], vm := .none },
  { cls := 11, slots := #[.long 41], vm := .none },
  { cls := 11, slots := #[.long 42], vm := .none },
  { cls := 11, slots := #[.long 43], vm := .none },
  { cls := 11, slots := #[.long 44], vm := .none },
  { cls := 11, slots := #[.long 45], vm := .none },
  { cls := 11, slots := #[.long 46], vm := .none },
  { cls := 11, slots := #[.long 47], vm := .none },
  { cls := 11, slots := #[.long 48], vm := .none },
  { cls := 11, slots := #[.long 49], vm := .none },
  { cls := 11, slots := #[.long 50], vm := .none },
  { cls := 11, slots := #[.long 51], vm := .none },
  { cls := 11, slots := #[.long 52], vm := .none },
  { cls := 11, slots := #[.long 53], vm := .none },
  { cls := 11, slots := #[.long 54], vm := .none },
  { cls := 11, slots := #[.long 55], vm := .none },
  { cls := 11, slots := #[.long 56], vm := .none },
  { cls := 11, slots := #[.long 57], vm := .none },
  { cls := 11, slots := #[.long 58], vm := .none },
  { cls := 11, slots := #[.long 59], vm := .none },
  { cls := 11, slots := #[.long 60], vm := .none },
  { cls := 11, slots := #[.long 61], vm := .none },
  { cls := 11, slots := #[.long 62], vm := .none },
  { cls := 11, slots := #[.long 63], vm := .none },
  { cls := 11, slots := #[.long 64], vm := .none },
  { cls := 11, slots := #[.long 65], vm := .none },
  { cls := 11, slots := #[.long 66], vm := .none },
  { cls := 11, slots := #[.long 67], vm := .none },
  { cls := 11, slots := #[.long 68], vm := .none },
  { cls := 11, slots := #[.long 69], vm := .none },
  { cls := 11, slots := #[.long 70], vm := .none },
  { cls := 11, slots := #[.long 71], vm := .none },
  { cls := 11, slots := #[.long 72], vm := .none },
  { cls := 11, slots := #[.long 73], vm := .none },
  { cls := 11, slots := #[.long 74], vm := .none },
  { cls := 11, slots := #[.long 75], vm := .none },
  { cls := 11, slots := #[.long 76], vm := .none },
  { cls := 11, slots := #[.long 77], vm := .none },
  { cls := 11, slots := #[.long 78], vm := .none },
  { cls := 11, slots := #[.long 79], vm := .none },
  { cls := 11, slots := #[.long 80], vm := .none },
  { cls := 11, slots := #[.long 81], vm := .none },
  { cls := 11, slots := #[.long 82], vm := .none },
  { cls := 11, slots := #[.long 83], vm := .none },
  { cls := 11, slots := #[.long 84], vm := .none },
  { cls := 11, slots := #[.long 85], vm := .none },
  { cls := 11, slots := #[.long 86], vm := .none },
  { cls := 11, slots := #[.long 87], vm := .none },
  { cls := 11, slots := #[.long 88], vm := .none },
  { cls := 11, slots := #[.long 89], vm := .none },
  { cls := 11, slots := #[.long 90], vm := .none },
  { cls := 11, slots := #[.long 91], vm := .none },
  { cls := 11, slots := #[.long 92], vm := .none },
  { cls := 11, slots := #[.long 93], vm := .none },
  { cls := 11, slots := #[.long 94], vm := .none },
  { cls := 11, slots := #[.long 95], vm := .none },
  { cls := 11, slots := #[.long 96], vm := .none },
  { cls := 11, slots := #[.long 97], vm := .none },
  { cls := 11, slots := #[.long 98], vm := .none },
  { cls := 11, slots := #[.long 99], vm := .none },
  { cls := 11, slots := #[.long 100], vm := .none },
  { cls := 11, slots := #[.long 101], vm := .none },
  { cls := 11, slots := #[.long 102], vm := .none },
  { cls := 11, slots := #[.long 103], vm := .none },
  { cls := 11, slots := #[.long 104], vm := .none },
  { cls := 11, slots := #[.long 105], vm := .none },
  { cls := 11, slots := #[.long 106], vm := .none },
  { cls := 11, slots := #[.long 107], vm := .none },
  { cls := 11, slots := #[.long 108], vm := .none },
  { cls := 11, slots := #[.long 109], vm := .none },
  { cls := 11, slots := #[.long 110], vm := .none },
  { cls := 11, slots := #[.long 111], vm := .none },
  { cls := 11, slots := #[.long 112], vm := .none },
  { cls := 11, slots := #[.long 113], vm := .none },
  { cls := 11, slots := #[.long 114], vm := .none },
  { cls := 11, slots := #[.long 115], vm := .none },
  { cls := 11, slots := #[.long 116], vm := .none },
  { cls := 11, slots := #[.long 117], vm := .none },
  { cls := 11, slots := #[.long 118], vm := .none },
  { cls := 11, slots := #[.long 119], vm := .none },
  { cls := 11, slots := #[.long 120], vm := .none },
  { cls := 11, slots := #[.long 121], vm := .none },
  { cls := 11, slots := #[.long 122], vm := .none },
  { cls := 11, slots := #[.long 123], vm := .none },
  { cls := 11, slots := #[.long 124], vm := .none },
  { cls := 11, slots := #[.long 125], vm := .none },
  { cls := 11, slots := #[.long 126], vm := .none },
  { cls := 11, slots := #[.long 127], vm := .none }]
def classes : Array Class := #[k0, k1, k2, k3, k4, k5, k6, k7, k8, k9, k10, k11, k12, k13, k14, k15, k16, k17, k18]
def interned : List (Array UInt16 × Addr) := []
def slotsUsed : Nat := 515
def theMethod : MethodId := ⟨1, 1⟩
def args0 : Array Value := #[.int 5, .long 5, .int 5, .long 5, .int 5]
def aboutOver (below : List Frame) : State where
  vm := { classes := classes, interned := interned.toArray }
  heap := heap
  slotsUsed := slotsUsed
  threads := #[{ frames := .invoking theMethod args0 :: below }]
def below0 : List Frame := [.native { method := ⟨0, 0⟩, args := #[] }]
def about1 : State := aboutOver below0
def p0 : Program := .bare "" "" ""
def e0 : Env := launch0.env 0 0 0
theorem w_frames : about1.frames = Frame.invoking theMethod args0 :: below0 := rfl
set_option maxRecDepth 65536 in
theorem w_args : argsFit about1.vm theMethod args0 = true := by decide +kernel
set_option maxRecDepth 65536 in
theorem w_heap : heapFits about1 = true := by decide +kernel
set_option maxRecDepth 65536 in
theorem w_runnable : about1.curStatus? = some .runnable := by decide +kernel
set_option maxRecDepth 65536 in
theorem w_alone : about1.alone = true := by decide +kernel
set_option maxRecDepth 65536 in
theorem w_named : about1.methodNamed? x = some theMethod := by decide +kernel
set_option maxRecDepth 65536 in
theorem w_hears : about1.hears theMethod below0 = true := by decide +kernel
set_option maxRecDepth 65536 in
theorem w_ripe : about1.ripe theMethod args0 below0 = true := by decide +kernel
theorem w_running : about1.status = .running := rfl
set_option maxRecDepth 65536 in
theorem w_room : about1.hasRoom e0.platform room_1 = true :=
  launch0.hasRoom_least _ room_1 (by decide +kernel) (by decide +kernel) (by decide +kernel) (by decide +kernel) (by decide +kernel) (by decide +kernel)
theorem allAtoms_all (ts : List Jvm.Cond) (a : Array Jvm.Value) (st : Jvm.State) : (allAtoms ts).before a st = ts.all (fun c => c.before a st) := by
  induction ts with
  | nil => rfl
  | cons c t ih =>
    show (Jvm.Cond.and c (allAtoms t)).before a st = _
    rw [Jvm.Cond.before_and, ih, List.all_cons]
def words1 : List Jvm.Cond := Jvm.Cond.code x code maxLocals ret :: tables_1
/-- a 'code' word, met by the world's own term for the bytes: nothing is compared byte by byte -/
theorem code_word {y : MethodName} {bytes : ByteArray} {mx : Nat} {rt : Option FieldType} {a : Array Value} {s : State} {m : MethodId} {meth : Method} {c : Code} (h1 : s.methodNamed? y = some m) (h2 : s.vm.method? m = some meth) (h3 : meth.code = some c) (h4 : c.code = bytes)
    (h5 : (c.maxLocals == mx && c.exceptionTable.isEmpty && decide (c.maxStack ≤ mostOperands) && decide (meth.sig.returnType = rt) && !meth.locks && decide (parseMethodDescriptor y.desc = some meth.sig)) = true) : (Jvm.Cond.code y bytes mx rt).before a s = true := by
  simp only [Bool.and_eq_true, beq_iff_eq, Bool.not_eq_true', decide_eq_true_eq] at h5
  obtain ⟨⟨⟨⟨⟨g1, g2⟩, g3⟩, g4⟩, g5⟩, g6⟩ := h5
  simp [Cond.before, Cond.holds, Cond.value, h1, h2, h3, h4, g1, g2, g3, g4, g5, g6]
def isCode : Jvm.Cond → Bool
  | .code _ _ _ _ => true
  | _ => false
theorem all_split {L : List Jvm.Cond} {P : Jvm.Cond → Bool} (h1 : L.all (fun c => isCode c || P c) = true) (h2 : ∀ c ∈ L.filter isCode, P c = true) : L.all P = true := by
  refine List.all_eq_true.mpr fun c hc => ?_
  have h := List.all_eq_true.mp h1 c hc
  rcases Bool.eq_false_or_eq_true (isCode c) with hi | hi
  · exact h2 c (List.mem_filter.mpr ⟨hc, hi⟩)
  · simpa [hi] using h
set_option maxRecDepth 65536 in
theorem w_c0 : (Jvm.Cond.code x code maxLocals ret).before args0 about1 = true := code_word (m := ⟨1, 1⟩) (meth := k1m1) (c := k1c1) (by decide +kernel) rfl rfl rfl (by decide +kernel)
set_option maxRecDepth 65536 in
theorem w_c1 : (Jvm.Cond.code ({ cls := "com/example/epoch/epoch/Accepted", name := "<init>", desc := "(IJ)V" } : Jvm.MethodName) prog_1_method_1_code (4 : Nat) (Option.none : Option Jvm.ClassFile.FieldType)).before args0 about1 = true := code_word (m := ⟨3, 0⟩) (meth := k3m0) (c := k3c0) (by decide +kernel) rfl rfl rfl (by decide +kernel)
set_option maxRecDepth 65536 in
theorem w_c2 : (Jvm.Cond.code ({ cls := "java/lang/Object", name := "<init>", desc := "()V" } : Jvm.MethodName) object_method_1_code (1 : Nat) (Option.none : Option Jvm.ClassFile.FieldType)).before args0 about1 = true := code_word (m := ⟨0, 0⟩) (meth := k0m0) (c := k0c0) (by decide +kernel) rfl rfl rfl (by decide +kernel)
set_option maxRecDepth 65536 in
theorem w_c3 : (Jvm.Cond.code ({ cls := "com/example/epoch/epoch/Accepted", name := "equals", desc := "(Ljava/lang/Object;)Z" } : Jvm.MethodName) prog_1_method_4_code (3 : Nat) (Option.some Jvm.ClassFile.FieldType.boolean)).before args0 about1 = true := code_word (m := ⟨3, 1⟩) (meth := k3m1) (c := k3c1) (by decide +kernel) rfl rfl rfl (by decide +kernel)
set_option maxRecDepth 65536 in
theorem w_c4 : (Jvm.Cond.code ({ cls := "com/example/epoch/epoch/Superseded", name := "<init>", desc := "(JLjava/lang/String;)V" } : Jvm.MethodName) prog_30_method_1_code (4 : Nat) (Option.none : Option Jvm.ClassFile.FieldType)).before args0 about1 = true := code_word (m := ⟨5, 0⟩) (meth := k5m0) (c := k5c0) (by decide +kernel) rfl rfl rfl (by decide +kernel)
set_option maxRecDepth 65536 in
theorem w_c5 : (Jvm.Cond.code ({ cls := "java/lang/Long", name := "valueOf", desc := "(J)Ljava/lang/Long;" } : Jvm.MethodName) jdk_35_method_24_code (3 : Nat) (Option.some (Jvm.ClassFile.FieldType.object "java/lang/Long"))).before args0 about1 = true := code_word (m := ⟨11, 0⟩) (meth := k11m0) (c := k11c0) (by decide +kernel) rfl rfl rfl (by decide +kernel)
set_option maxRecDepth 65536 in
theorem w_c6 : (Jvm.Cond.code ({ cls := "java/lang/Long", name := "<init>", desc := "(J)V" } : Jvm.MethodName) jdk_35_method_26_code (3 : Nat) (Option.none : Option Jvm.ClassFile.FieldType)).before args0 about1 = true := code_word (m := ⟨11, 1⟩) (meth := k11m1) (c := k11c1) (by decide +kernel) rfl rfl rfl (by decide +kernel)
set_option maxRecDepth 65536 in
theorem w_c7 : (Jvm.Cond.code ({ cls := "java/lang/Number", name := "<init>", desc := "()V" } : Jvm.MethodName) jdk_18_method_1_code (1 : Nat) (Option.none : Option Jvm.ClassFile.FieldType)).before args0 about1 = true := code_word (m := ⟨7, 0⟩) (meth := k7m0) (c := k7c0) (by decide +kernel) rfl rfl rfl (by decide +kernel)
def codes1 : List Jvm.Cond := [Jvm.Cond.code x code maxLocals ret, Jvm.Cond.code ({ cls := "com/example/epoch/epoch/Accepted", name := "<init>", desc := "(IJ)V" } : Jvm.MethodName) prog_1_method_1_code (4 : Nat) (Option.none : Option Jvm.ClassFile.FieldType), Jvm.Cond.code ({ cls := "java/lang/Object", name := "<init>", desc := "()V" } : Jvm.MethodName) object_method_1_code (1 : Nat) (Option.none : Option Jvm.ClassFile.FieldType), Jvm.Cond.code ({ cls := "com/example/epoch/epoch/Accepted", name := "equals", desc := "(Ljava/lang/Object;)Z" } : Jvm.MethodName) prog_1_method_4_code (3 : Nat) (Option.some Jvm.ClassFile.FieldType.boolean), Jvm.Cond.code ({ cls := "com/example/epoch/epoch/Superseded", name := "<init>", desc := "(JLjava/lang/String;)V" } : Jvm.MethodName) prog_30_method_1_code (4 : Nat) (Option.none : Option Jvm.ClassFile.FieldType), Jvm.Cond.code ({ cls := "java/lang/Long", name := "valueOf", desc := "(J)Ljava/lang/Long;" } : Jvm.MethodName) jdk_35_method_24_code (3 : Nat) (Option.some (Jvm.ClassFile.FieldType.object "java/lang/Long")), Jvm.Cond.code ({ cls := "java/lang/Long", name := "<init>", desc := "(J)V" } : Jvm.MethodName) jdk_35_method_26_code (3 : Nat) (Option.none : Option Jvm.ClassFile.FieldType), Jvm.Cond.code ({ cls := "java/lang/Number", name := "<init>", desc := "()V" } : Jvm.MethodName) jdk_18_method_1_code (1 : Nat) (Option.none : Option Jvm.ClassFile.FieldType)]
set_option maxRecDepth 65536 in
theorem codes_eq : words1.filter isCode = codes1 := rfl
theorem w_codes : ∀ c ∈ words1.filter isCode, c.before args0 about1 = true := by
  rw [codes_eq]
  intro c hc
  simp only [codes1, List.mem_cons, List.not_mem_nil, or_false] at hc
  rcases hc with rfl | rfl | rfl | rfl | rfl | rfl | rfl | rfl
  · exact w_c0
  · exact w_c1
  · exact w_c2
  · exact w_c3
  · exact w_c4
  · exact w_c5
  · exact w_c6
  · exact w_c7
set_option maxRecDepth 65536 in
theorem w_t1 : (words1.take 24).all (fun c => isCode c || c.before args0 about1) = true := by decide +kernel
set_option maxRecDepth 65536 in
theorem w_t2 : ((words1.drop 24).take 24).all (fun c => isCode c || c.before args0 about1) = true := by decide +kernel
set_option maxRecDepth 65536 in
theorem w_t3 : ((words1.drop 24).drop 24).all (fun c => isCode c || c.before args0 about1) = true := by decide +kernel
theorem w_tables : (allAtoms (Jvm.Cond.code x code maxLocals ret :: tables_1)).before args0 about1 = true := by
  rw [allAtoms_all]
  show words1.all (fun c => c.before args0 about1) = true
  refine all_split ?_ w_codes
  rw [← List.take_append_drop 24 words1, List.all_append, w_t1, ← List.take_append_drop 24 (words1.drop 24), List.all_append, w_t2, w_t3]
  rfl
set_option maxRecDepth 65536 in
theorem w_rest : rest_1_c.before args0 about1 = true := by decide +kernel
set_option maxRecDepth 65536 in
theorem w_case : (Jvm.Cond.and given_1 narrow_1).before args0 about1 = true := by decide +kernel
theorem w_applies : (headSpec (Jvm.Cond.code x code maxLocals ret :: tables_1) room_1).applies x e0.platform about1 = true :=
  (Spec.applies_iff w_frames).mpr ⟨w_running, w_runnable, w_alone, w_named, w_hears, w_ripe, w_room, w_tables⟩
theorem atStart : AtStart classFile x code maxLocals ret World_1 tables_1 room_1 Calls_1 rest_1 Pre_1 launch0 p0 e0 about1 theMethod args0 below0 :=
  ⟨lists_1, trivial, launch0.admits_env _ _ _, launch0.least_env, fairChoices_fair.cas, fairChoices_fair.clock, w_frames, w_args, w_heap, w_applies, trivial, w_rest, w_case⟩
end start1
theorem witness_1 : WitnessClaimed_1 := ⟨start1.p0, start1.e0, start1.about1, start1.theMethod, start1.args0, start1.below0, start1.atStart⟩
end Jvm.Pilot.@@N@@
