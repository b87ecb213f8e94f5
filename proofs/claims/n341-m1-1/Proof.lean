import JvmDerived
import JvmDerived.Pilot.@@N@@Statement
import JvmDerived.Pilot.@@N@@Code
set_option linter.unusedVariables false
set_option linter.unusedSimpArgs false
namespace Jvm.Pilot.@@N@@
open Jvm Jvm.ClassFile Sem Op Lib Jvm.Free Jvm.Stand Jvm.LawKit Jvm.RoadKit Bundle Jvm.Pilot.@@N@@.Jvm.D
def own_Fin (p : Program) (e : Env) (below : List Frame) (P : State → Outcome → Prop) (a : State) : Prop := ∃ t o, Steps p.tables e below a t ∧ t.status = .running ∧ Ended t below o ∧ P t o
theorem own_fin {p : Program} {e : Env} {below : List Frame} {P : State → Outcome → Prop} {a b : State} (k : ∀ t, Steps p.tables e below b t → Steps p.tables e below a t) (h : own_Fin p e below P b) : own_Fin p e below P a := by
  obtain ⟨t, o, s, r⟩ := h
  exact ⟨t, o, k t s, r⟩
theorem own_rw {T : State} {h : Heap} {a : Addr} {c : Cell} (e : T.heap = h) (q : h[a]? = some c) : T.heap[a]? = some c := by rw [e]; exact q
theorem own_StaKeep {Z : State} {h : Heap} {C n d : String} {v : Value} {n0 : Nat} (O : Old Z n0 h) (F : Sta Z Z.heap C n d v) : Sta Z h C n d v := F.ext O.2

theorem own_NSroot {Z : State} {a0 : Array Value} {O K : String} {n : Nat} (w : (Jvm.Cond.noSuperclass O).before a0 Z = true) (wk : (Jvm.Cond.instantiable K n).before a0 Z = true) (hn : O ≠ K) : NS Z O K := by
  obtain ⟨c, k, h1, h2, h3, -, -⟩ := Cond.noSuperclass_spec w
  obtain ⟨t, -, g1, -⟩ := Cond.instantiable_spec wk
  have ne := ids_ne h1 g1 hn
  refine ⟨c, t, h1, g1, fun fuel => ?_⟩
  match fuel with
  | 0 => rfl
  | f + 1 => simp [Vm.isSubclassAux, ne, h2, h3]
theorem own_NSno {Z : State} {a0 : Array Value} {C S K : String} {n : Nat} (w : (Jvm.Cond.superclass C S).before a0 Z = true) (wk : (Jvm.Cond.instantiable K n).before a0 Z = true) (q : NS Z C K) (hn : C ≠ K) : ∃ c t, Z.vm.findClass C = some c ∧ Z.vm.findClass K = some t ∧ Z.vm.assignable c t = false := by
  obtain ⟨c, t, h0, g0, n3⟩ := q
  obtain ⟨_, k, _, -, h2, -, -, h5, -, h7⟩ := Cond.superclass_spec h0 w
  obtain ⟨t', k', g1, g2, g5, g7, -, -⟩ := Cond.instantiable_spec wk
  cases g0.symm.trans g1
  have g8 : k'.isInterface = false := by cases hq : k'.isInterface <;> simp [hq] at g7 ⊢
  have ne := ids_ne h0 g0 hn
  refine ⟨c, t, h0, g0, ?_⟩
  show Z.vm.assignableAux (255 + 1) c t = false
  simp [Vm.assignableAux, ne, h2, g2, h5, g5, g8, Vm.isSubclass, n3]
theorem own_sym {α β : Type} [DecidableEq α] [DecidableEq β] (a b : α) (c d : β) : (if a = b then (if c = d then (1 : Int32) else (0 : Int32)) else (0 : Int32)) = (if b = a then (if d = c then (1 : Int32) else (0 : Int32)) else (0 : Int32)) := by
  by_cases h : a = b
  · subst h
    by_cases g : c = d
    · subst g; rfl
    · rw [if_pos rfl, if_pos rfl, if_neg g, if_neg (Ne.symm g)]
  · rw [if_neg h, if_neg (Ne.symm h)]
theorem own_d1_0 : decode prog_9_method_1_code 0 = .ok (.aload_n 0, 1) := by decide +kernel
theorem own_d1_1 : decode prog_9_method_1_code 1 = .ok (.invokespecial 1, 3) := by decide +kernel
theorem own_d1_4 : decode prog_9_method_1_code 4 = .ok (.aload_n 0, 1) := by decide +kernel
theorem own_d1_5 : decode prog_9_method_1_code 5 = .ok (.lload_n 1, 1) := by decide +kernel
theorem own_d1_6 : decode prog_9_method_1_code 6 = .ok (.putfield 7, 3) := by decide +kernel
theorem own_d1_9 : decode prog_9_method_1_code 9 = .ok (.aload_n 0, 1) := by decide +kernel
theorem own_d1_10 : decode prog_9_method_1_code 10 = .ok (.lload_n 3, 1) := by decide +kernel
theorem own_d1_11 : decode prog_9_method_1_code 11 = .ok (.putfield 13, 3) := by decide +kernel
theorem own_d1_14 : decode prog_9_method_1_code 14 = .ok (.return_, 1) := by decide +kernel
theorem own_pn_com_example_epoch_epoch_Hole : plainName "com/example/epoch/epoch/Hole" = true := by first | (simp [plainName, overriddenIn]; done) | decide +kernel
theorem own_ef_rm_hole (mM : MethodId) (x0 : Addr) (x1 : Int64) (x2 : Int64) : entryFrame mM #[(.ref x0), (.long x1), (.long x2)] 5 = mkF mM 0 #[.val (.ref x0), .val (.long x1), .second, .val (.long x2), .second] [] := by first | (simp [entryFrame, mkF, argsToLocals, Value.category]; done) | rfl
def Q_rm_hole (Z : State) (a : Addr) (q0 : Int64) (q1 : Int64) (h0 : Heap) (n0 : Nat) (vV : Option Value) (hH : Heap) (lA : List Loc) : Prop := vV = none ∧ Fr n0 lA ∧ (Keep h0 hH [a]) ∧ (Exa Z hH a "com/example/epoch/epoch/Hole") ∧ (Fld Z hH a "com/example/epoch/epoch/Hole" "first" "J" (.long q0)) ∧ (Fld Z hH a "com/example/epoch/epoch/Hole" "last" "J" (.long q1))
set_option maxRecDepth 65536 in
set_option maxHeartbeats 40000000 in
theorem rm_hole (lL : Launch) (Z : State) (a0 : Array Value) (hw : ∀ d ∈ tables_1, d.before a0 Z = true) (ws : List Jvm.Cond) (a : Addr) (q0 : Int64) (q1 : Int64) (h0 : Heap) (n0 : Nat) (Z0 : n0 ≤ h0.size) (Ea : Exa Z h0 a "com/example/epoch/epoch/Hole") (F0 : Fld Z h0 a "com/example/epoch/epoch/Hole" "first" "J" (.long (0 : Int64))) (F1 : Fld Z h0 a "com/example/epoch/epoch/Hole" "last" "J" (.long (0 : Int64))) (ga : n0 ≤ a) :
    MetFree lL (⟨"com/example/epoch/epoch/Hole", "<init>", "(JJ)V"⟩ : MethodName) (head1 (Jvm.Cond.code (⟨"com/example/epoch/epoch/Hole", "<init>", "(JJ)V"⟩ : MethodName) prog_9_method_1_code 5 none :: ws) ({ frames := 1, cells := 0, slots := 0, locals := 12 } : Room)) (fun aA uU => aA = #[(.ref a), (.long q0), (.long q1)] ∧ Z.Warmed39 uU.vm ∧ uU.heap = h0) (fun _ _ _ _ _ => True) (fun _ uU oO uU' => ∃ vV lA, oO = .returned vV ∧ Q_rm_hole Z a q0 q1 h0 n0 vV uU'.heap lA ∧ FrameEnd uU oO uU' lA ({ frames := 1, cells := 0, slots := 0, locals := 12 } : Room).cells ({ frames := 1, cells := 0, slots := 0, locals := 12 } : Room).slots) := by
  refine MetFree.of_bodySF (plainFor_of_name own_pn_com_example_epoch_epoch_Hole) hisR ?_
  intro pP eE sS mM args below meth cC s₁ Bd hml0 hP hK
  obtain ⟨rfl, hZ, hh⟩ := hP
  have hx := Bd.exec
  have hby := Bd.bytes
  have hml : cC.maxLocals = 5 := hml0
  have hown : sS.vm.findClass "com/example/epoch/epoch/Hole" = some mM.cls := findClass_of_methodNamed Bd.named
  have hnm := (name_of_methodNamed Bd.named Bd.method).1
  have X0 : Stand pP lL eE ({ frames := 1, cells := 0, slots := 0, locals := 12 } : Room) sS mM #[(.ref a), (.long q0), (.long q1)] below meth cC s₁ [] 0 0 := Stand.of_body Bd
  have e0 : s₁.heap = h0 := by rw [← hh, Bd.state]; rfl
  have N0 := Fr.nil n0
  have K0 := Keep.refl h0 [a]
  show own_Fin pP eE below (fun tT oO => ∃ vV lA, oO = .returned vV ∧ Q_rm_hole Z a q0 q1 h0 n0 vV tT.heap lA ∧ FrameEnd sS oO tT lA ({ frames := 1, cells := 0, slots := 0, locals := 12 } : Room).cells ({ frames := 1, cells := 0, slots := 0, locals := 12 } : Room).slots) (s₁.setTop (entryFrame mM #[(.ref a), (.long q0), (.long q1)] 5))
  refine own_fin (b := s₁.setTop (mkF mM 0 #[.val (.ref a), .val (.long q0), .second, .val (.long q1), .second] [])) (fun tT kK => castTop (own_ef_rm_hole mM a q0 q1) kK) ?_
  refine own_fin (b := s₁.setTop (mkF mM 1 #[.val (.ref a), .val (.long q0), .second, .val (.long q1), .second] [(.ref a)])) (fun tT kK => ?_) ?_
  · show Steps pP.tables eE below (s₁.setTop (mkF mM 0 #[.val (.ref a), .val (.long q0), .second, .val (.long q1), .second] [])) tT
    refine XS.aloadN X0.here hx rfl (Jvm.hb hby own_d1_0) rfl rfl ?_
    show Steps pP.tables eE below (s₁.setTop (mkF mM 1 #[.val (.ref a), .val (.long q0), .second, .val (.long q1), .second] [(.ref a)])) tT
    exact kK
  obtain ⟨T1_, X1_, e1_, st1_⟩ := initO X0 hx hZ hown (hw _ (List.mem_of_getElem? (i := 6) rfl)) (hw _ (List.mem_of_getElem? (i := 7) rfl)) (hw _ (List.mem_of_getElem? (i := 8) rfl)) e0 (g := (mkF mM 1 #[.val (.ref a), .val (.long q0), .second, .val (.long q1), .second] [(.ref a)])) rfl (by rw [hml]; rfl) rfl (Jvm.hb hby own_d1_1) (by decide) (W := 0) (by show 2 * 0 + _ ≤ _; exact Nat.le_of_eq rfl) (by decide)
  refine own_fin st1_ ?_
  show own_Fin pP eE below _ (T1_.setTop (mkF mM 4 #[.val (.ref a), .val (.long q0), .second, .val (.long q1), .second] []))
  refine own_fin (b := T1_.setTop (mkF mM 6 #[.val (.ref a), .val (.long q0), .second, .val (.long q1), .second] [(.long q0), (.ref a)])) (fun tT kK => ?_) ?_
  · show Steps pP.tables eE below (T1_.setTop (mkF mM 4 #[.val (.ref a), .val (.long q0), .second, .val (.long q1), .second] [])) tT
    refine XS.aloadN X1_.here hx rfl (Jvm.hb hby own_d1_4) rfl rfl ?_
    show Steps pP.tables eE below (T1_.setTop (mkF mM 5 #[.val (.ref a), .val (.long q0), .second, .val (.long q1), .second] [(.ref a)])) tT
    refine XS.lloadN X1_.here hx rfl (Jvm.hb hby own_d1_5) rfl ?_
    show Steps pP.tables eE below (T1_.setTop (mkF mM 6 #[.val (.ref a), .val (.long q0), .second, .val (.long q1), .second] [(.long q0), (.ref a)])) tT
    exact kK
  obtain ⟨T2_, h2_, X2_, e2_, W2_, st2_⟩ := putF X1_ hx hZ hown (host := "") (Or.inl (hw _ (List.mem_of_getElem? (i := 9) rfl))) Via.refl e1_ F0 Ea (Or.inr ⟨(hw _ (List.mem_of_getElem? (i := 10) rfl)), rfl, hnm⟩) (hw _ (List.mem_of_getElem? (i := 1) rfl)) (ty := .long) (by decide) rfl rfl (g := (mkF mM 6 #[.val (.ref a), .val (.long q0), .second, .val (.long q1), .second] [(.long q0), (.ref a)])) rfl rfl (Jvm.hb hby own_d1_6)
  have Fw2_ := F0.same W2_
  have fc3_ := Ea.wr W2_
  have fc4_ := F1.other W2_ (Or.inr (slot_ne (Or.inr (hw _ (List.mem_of_getElem? (i := 12) rfl))) (Or.inr (hw _ (List.mem_of_getElem? (i := 10) rfl))) (by decide) (t := .long) (t' := .long) (by decide) (by decide)))
  have K2_ := K0.wr W2_ (Or.inl (List.mem_of_getElem? (i := 0) rfl))
  have N2_ := Fr.snoc X2_ N0 ga
  refine own_fin st2_ ?_
  show own_Fin pP eE below _ (T2_.setTop (mkF mM 9 #[.val (.ref a), .val (.long q0), .second, .val (.long q1), .second] []))
  refine own_fin (b := T2_.setTop (mkF mM 11 #[.val (.ref a), .val (.long q0), .second, .val (.long q1), .second] [(.long q1), (.ref a)])) (fun tT kK => ?_) ?_
  · show Steps pP.tables eE below (T2_.setTop (mkF mM 9 #[.val (.ref a), .val (.long q0), .second, .val (.long q1), .second] [])) tT
    refine XS.aloadN X2_.here hx rfl (Jvm.hb hby own_d1_9) rfl rfl ?_
    show Steps pP.tables eE below (T2_.setTop (mkF mM 10 #[.val (.ref a), .val (.long q0), .second, .val (.long q1), .second] [(.ref a)])) tT
    refine XS.lloadN X2_.here hx rfl (Jvm.hb hby own_d1_10) rfl ?_
    show Steps pP.tables eE below (T2_.setTop (mkF mM 11 #[.val (.ref a), .val (.long q0), .second, .val (.long q1), .second] [(.long q1), (.ref a)])) tT
    exact kK
  obtain ⟨T5_, h5_, X5_, e5_, W5_, st5_⟩ := putF X2_ hx hZ hown (host := "") (Or.inl (hw _ (List.mem_of_getElem? (i := 11) rfl))) Via.refl e2_ fc4_ fc3_ (Or.inr ⟨(hw _ (List.mem_of_getElem? (i := 12) rfl)), rfl, hnm⟩) (hw _ (List.mem_of_getElem? (i := 1) rfl)) (ty := .long) (by decide) rfl rfl (g := (mkF mM 11 #[.val (.ref a), .val (.long q0), .second, .val (.long q1), .second] [(.long q1), (.ref a)])) rfl rfl (Jvm.hb hby own_d1_11)
  have Fw5_ := fc4_.same W5_
  have fc6_ := fc3_.wr W5_
  have fc7_ := Fw2_.other W5_ (Or.inr (slot_ne (Or.inr (hw _ (List.mem_of_getElem? (i := 10) rfl))) (Or.inr (hw _ (List.mem_of_getElem? (i := 12) rfl))) (by decide) (t := .long) (t' := .long) (by decide) (by decide)))
  have K5_ := K2_.wr W5_ (Or.inl (List.mem_of_getElem? (i := 0) rfl))
  have N5_ := Fr.snoc X5_ N2_ ga
  refine own_fin st5_ ?_
  show own_Fin pP eE below _ (T5_.setTop (mkF mM 14 #[.val (.ref a), .val (.long q0), .second, .val (.long q1), .second] []))
  obtain ⟨fs, hr, hrun, hended, hW, hsame⟩ := X5_.leave (v := none) (fun _ => rfl)
  refine ⟨_, _, ?_, hrun, hended, _, _, rfl, ?_, ⟨_, rfl⟩, hW, hsame.mono (by decide) (by decide)⟩
  · show Steps pP.tables eE below (T5_.setTop (mkF mM 14 #[.val (.ref a), .val (.long q0), .second, .val (.long q1), .second] [])) _
    exact X5_.returnOut hx Bd.returns (Jvm.hb hby own_d1_14) hr
  · show Q_rm_hole Z a q0 q1 h0 n0 _ T5_.heap _
    rw [e5_]
    exact ⟨rfl, N5_, K5_, fc6_, fc7_, Fw5_⟩
theorem own_d4_0 : decode prog_15_method_1_code 0 = .ok (.aload_n 0, 1) := by decide +kernel
theorem own_d4_1 : decode prog_15_method_1_code 1 = .ok (.invokespecial 1, 3) := by decide +kernel
theorem own_d4_4 : decode prog_15_method_1_code 4 = .ok (.aload_n 0, 1) := by decide +kernel
theorem own_d4_5 : decode prog_15_method_1_code 5 = .ok (.lload_n 1, 1) := by decide +kernel
theorem own_d4_6 : decode prog_15_method_1_code 6 = .ok (.putfield 7, 3) := by decide +kernel
theorem own_d4_9 : decode prog_15_method_1_code 9 = .ok (.aload_n 0, 1) := by decide +kernel
theorem own_d4_10 : decode prog_15_method_1_code 10 = .ok (.lload_n 3, 1) := by decide +kernel
theorem own_d4_11 : decode prog_15_method_1_code 11 = .ok (.putfield 13, 3) := by decide +kernel
theorem own_d4_14 : decode prog_15_method_1_code 14 = .ok (.aload_n 0, 1) := by decide +kernel
theorem own_d4_15 : decode prog_15_method_1_code 15 = .ok (.aload 5, 2) := by decide +kernel
theorem own_d4_17 : decode prog_15_method_1_code 17 = .ok (.putfield 16, 3) := by decide +kernel
theorem own_d4_20 : decode prog_15_method_1_code 20 = .ok (.return_, 1) := by decide +kernel
theorem own_pn_com_example_epoch_epoch_LogEvent : plainName "com/example/epoch/epoch/LogEvent" = true := by first | (simp [plainName, overriddenIn]; done) | decide +kernel
theorem own_ef_rm_log (mM : MethodId) (x0 : Addr) (x1 : Int64) (x2 : Int64) (x3 : Addr) : entryFrame mM #[(.ref x0), (.long x1), (.long x2), (.ref x3)] 6 = mkF mM 0 #[.val (.ref x0), .val (.long x1), .second, .val (.long x2), .second, .val (.ref x3)] [] := by first | (simp [entryFrame, mkF, argsToLocals, Value.category]; done) | rfl
def Q_rm_log (Z : State) (a : Addr) (q0 : Int64) (q1 : Int64) (r2 : Addr) (h0 : Heap) (n0 : Nat) (vV : Option Value) (hH : Heap) (lA : List Loc) : Prop := vV = none ∧ Fr n0 lA ∧ (Keep h0 hH [a]) ∧ (Exa Z hH a "com/example/epoch/epoch/LogEvent") ∧ (Fld Z hH a "com/example/epoch/epoch/LogEvent" "sequence" "J" (.long q0)) ∧ (Fld Z hH a "com/example/epoch/epoch/LogEvent" "epoch" "J" (.long q1)) ∧ (Fld Z hH a "com/example/epoch/epoch/LogEvent" "bytes" "[B" (.ref r2))
set_option maxRecDepth 65536 in
set_option maxHeartbeats 40000000 in
theorem rm_log (lL : Launch) (Z : State) (a0 : Array Value) (hw : ∀ d ∈ tables_1, d.before a0 Z = true) (ws : List Jvm.Cond) (a : Addr) (q0 : Int64) (q1 : Int64) (r2 : Addr) (h0 : Heap) (n0 : Nat) (Z0 : n0 ≤ h0.size) (Ea : Exa Z h0 a "com/example/epoch/epoch/LogEvent") (F0 : Fld Z h0 a "com/example/epoch/epoch/LogEvent" "sequence" "J" (.long (0 : Int64))) (F1 : Fld Z h0 a "com/example/epoch/epoch/LogEvent" "epoch" "J" (.long (0 : Int64))) (F2 : Fld Z h0 a "com/example/epoch/epoch/LogEvent" "bytes" "[B" .null) (ga : n0 ≤ a) :
    MetFree lL (⟨"com/example/epoch/epoch/LogEvent", "<init>", "(JJ[B)V"⟩ : MethodName) (head1 (Jvm.Cond.code (⟨"com/example/epoch/epoch/LogEvent", "<init>", "(JJ[B)V"⟩ : MethodName) prog_15_method_1_code 6 none :: ws) ({ frames := 1, cells := 0, slots := 0, locals := 12 } : Room)) (fun aA uU => aA = #[(.ref a), (.long q0), (.long q1), (.ref r2)] ∧ Z.Warmed39 uU.vm ∧ uU.heap = h0) (fun _ _ _ _ _ => True) (fun _ uU oO uU' => ∃ vV lA, oO = .returned vV ∧ Q_rm_log Z a q0 q1 r2 h0 n0 vV uU'.heap lA ∧ FrameEnd uU oO uU' lA ({ frames := 1, cells := 0, slots := 0, locals := 12 } : Room).cells ({ frames := 1, cells := 0, slots := 0, locals := 12 } : Room).slots) := by
  refine MetFree.of_bodySF (plainFor_of_name own_pn_com_example_epoch_epoch_LogEvent) hisR ?_
  intro pP eE sS mM args below meth cC s₁ Bd hml0 hP hK
  obtain ⟨rfl, hZ, hh⟩ := hP
  have hx := Bd.exec
  have hby := Bd.bytes
  have hml : cC.maxLocals = 6 := hml0
  have hown : sS.vm.findClass "com/example/epoch/epoch/LogEvent" = some mM.cls := findClass_of_methodNamed Bd.named
  have hnm := (name_of_methodNamed Bd.named Bd.method).1
  have X0 : Stand pP lL eE ({ frames := 1, cells := 0, slots := 0, locals := 12 } : Room) sS mM #[(.ref a), (.long q0), (.long q1), (.ref r2)] below meth cC s₁ [] 0 0 := Stand.of_body Bd
  have e0 : s₁.heap = h0 := by rw [← hh, Bd.state]; rfl
  have N0 := Fr.nil n0
  have K0 := Keep.refl h0 [a]
  show own_Fin pP eE below (fun tT oO => ∃ vV lA, oO = .returned vV ∧ Q_rm_log Z a q0 q1 r2 h0 n0 vV tT.heap lA ∧ FrameEnd sS oO tT lA ({ frames := 1, cells := 0, slots := 0, locals := 12 } : Room).cells ({ frames := 1, cells := 0, slots := 0, locals := 12 } : Room).slots) (s₁.setTop (entryFrame mM #[(.ref a), (.long q0), (.long q1), (.ref r2)] 6))
  refine own_fin (b := s₁.setTop (mkF mM 0 #[.val (.ref a), .val (.long q0), .second, .val (.long q1), .second, .val (.ref r2)] [])) (fun tT kK => castTop (own_ef_rm_log mM a q0 q1 r2) kK) ?_
  refine own_fin (b := s₁.setTop (mkF mM 1 #[.val (.ref a), .val (.long q0), .second, .val (.long q1), .second, .val (.ref r2)] [(.ref a)])) (fun tT kK => ?_) ?_
  · show Steps pP.tables eE below (s₁.setTop (mkF mM 0 #[.val (.ref a), .val (.long q0), .second, .val (.long q1), .second, .val (.ref r2)] [])) tT
    refine XS.aloadN X0.here hx rfl (Jvm.hb hby own_d4_0) rfl rfl ?_
    show Steps pP.tables eE below (s₁.setTop (mkF mM 1 #[.val (.ref a), .val (.long q0), .second, .val (.long q1), .second, .val (.ref r2)] [(.ref a)])) tT
    exact kK
  obtain ⟨T1_, X1_, e1_, st1_⟩ := initO X0 hx hZ hown (hw _ (List.mem_of_getElem? (i := 27) rfl)) (hw _ (List.mem_of_getElem? (i := 7) rfl)) (hw _ (List.mem_of_getElem? (i := 8) rfl)) e0 (g := (mkF mM 1 #[.val (.ref a), .val (.long q0), .second, .val (.long q1), .second, .val (.ref r2)] [(.ref a)])) rfl (by rw [hml]; rfl) rfl (Jvm.hb hby own_d4_1) (by decide) (W := 0) (by show 2 * 0 + _ ≤ _; exact Nat.le_of_eq rfl) (by decide)
  refine own_fin st1_ ?_
  show own_Fin pP eE below _ (T1_.setTop (mkF mM 4 #[.val (.ref a), .val (.long q0), .second, .val (.long q1), .second, .val (.ref r2)] []))
  refine own_fin (b := T1_.setTop (mkF mM 6 #[.val (.ref a), .val (.long q0), .second, .val (.long q1), .second, .val (.ref r2)] [(.long q0), (.ref a)])) (fun tT kK => ?_) ?_
  · show Steps pP.tables eE below (T1_.setTop (mkF mM 4 #[.val (.ref a), .val (.long q0), .second, .val (.long q1), .second, .val (.ref r2)] [])) tT
    refine XS.aloadN X1_.here hx rfl (Jvm.hb hby own_d4_4) rfl rfl ?_
    show Steps pP.tables eE below (T1_.setTop (mkF mM 5 #[.val (.ref a), .val (.long q0), .second, .val (.long q1), .second, .val (.ref r2)] [(.ref a)])) tT
    refine XS.lloadN X1_.here hx rfl (Jvm.hb hby own_d4_5) rfl ?_
    show Steps pP.tables eE below (T1_.setTop (mkF mM 6 #[.val (.ref a), .val (.long q0), .second, .val (.long q1), .second, .val (.ref r2)] [(.long q0), (.ref a)])) tT
    exact kK
  obtain ⟨T2_, h2_, X2_, e2_, W2_, st2_⟩ := putF X1_ hx hZ hown (host := "") (Or.inl (hw _ (List.mem_of_getElem? (i := 28) rfl))) Via.refl e1_ F0 Ea (Or.inr ⟨(hw _ (List.mem_of_getElem? (i := 29) rfl)), rfl, hnm⟩) (hw _ (List.mem_of_getElem? (i := 21) rfl)) (ty := .long) (by decide) rfl rfl (g := (mkF mM 6 #[.val (.ref a), .val (.long q0), .second, .val (.long q1), .second, .val (.ref r2)] [(.long q0), (.ref a)])) rfl rfl (Jvm.hb hby own_d4_6)
  have Fw2_ := F0.same W2_
  have fc3_ := Ea.wr W2_
  have fc4_ := F1.other W2_ (Or.inr (slot_ne (Or.inr (hw _ (List.mem_of_getElem? (i := 31) rfl))) (Or.inr (hw _ (List.mem_of_getElem? (i := 29) rfl))) (by decide) (t := .long) (t' := .long) (by decide) (by decide)))
  have fc5_ := F2.other W2_ (Or.inr (slot_ne (Or.inr (hw _ (List.mem_of_getElem? (i := 33) rfl))) (Or.inr (hw _ (List.mem_of_getElem? (i := 29) rfl))) (by decide) (t := (.array .byte)) (t' := .long) (by decide) (by decide)))
  have K2_ := K0.wr W2_ (Or.inl (List.mem_of_getElem? (i := 0) rfl))
  have N2_ := Fr.snoc X2_ N0 ga
  refine own_fin st2_ ?_
  show own_Fin pP eE below _ (T2_.setTop (mkF mM 9 #[.val (.ref a), .val (.long q0), .second, .val (.long q1), .second, .val (.ref r2)] []))
  refine own_fin (b := T2_.setTop (mkF mM 11 #[.val (.ref a), .val (.long q0), .second, .val (.long q1), .second, .val (.ref r2)] [(.long q1), (.ref a)])) (fun tT kK => ?_) ?_
  · show Steps pP.tables eE below (T2_.setTop (mkF mM 9 #[.val (.ref a), .val (.long q0), .second, .val (.long q1), .second, .val (.ref r2)] [])) tT
    refine XS.aloadN X2_.here hx rfl (Jvm.hb hby own_d4_9) rfl rfl ?_
    show Steps pP.tables eE below (T2_.setTop (mkF mM 10 #[.val (.ref a), .val (.long q0), .second, .val (.long q1), .second, .val (.ref r2)] [(.ref a)])) tT
    refine XS.lloadN X2_.here hx rfl (Jvm.hb hby own_d4_10) rfl ?_
    show Steps pP.tables eE below (T2_.setTop (mkF mM 11 #[.val (.ref a), .val (.long q0), .second, .val (.long q1), .second, .val (.ref r2)] [(.long q1), (.ref a)])) tT
    exact kK
  obtain ⟨T6_, h6_, X6_, e6_, W6_, st6_⟩ := putF X2_ hx hZ hown (host := "") (Or.inl (hw _ (List.mem_of_getElem? (i := 30) rfl))) Via.refl e2_ fc4_ fc3_ (Or.inr ⟨(hw _ (List.mem_of_getElem? (i := 31) rfl)), rfl, hnm⟩) (hw _ (List.mem_of_getElem? (i := 21) rfl)) (ty := .long) (by decide) rfl rfl (g := (mkF mM 11 #[.val (.ref a), .val (.long q0), .second, .val (.long q1), .second, .val (.ref r2)] [(.long q1), (.ref a)])) rfl rfl (Jvm.hb hby own_d4_11)
  have Fw6_ := fc4_.same W6_
  have fc7_ := fc3_.wr W6_
  have fc8_ := Fw2_.other W6_ (Or.inr (slot_ne (Or.inr (hw _ (List.mem_of_getElem? (i := 29) rfl))) (Or.inr (hw _ (List.mem_of_getElem? (i := 31) rfl))) (by decide) (t := .long) (t' := .long) (by decide) (by decide)))
  have fc9_ := fc5_.other W6_ (Or.inr (slot_ne (Or.inr (hw _ (List.mem_of_getElem? (i := 33) rfl))) (Or.inr (hw _ (List.mem_of_getElem? (i := 31) rfl))) (by decide) (t := (.array .byte)) (t' := .long) (by decide) (by decide)))
  have K6_ := K2_.wr W6_ (Or.inl (List.mem_of_getElem? (i := 0) rfl))
  have N6_ := Fr.snoc X6_ N2_ ga
  refine own_fin st6_ ?_
  show own_Fin pP eE below _ (T6_.setTop (mkF mM 14 #[.val (.ref a), .val (.long q0), .second, .val (.long q1), .second, .val (.ref r2)] []))
  refine own_fin (b := T6_.setTop (mkF mM 17 #[.val (.ref a), .val (.long q0), .second, .val (.long q1), .second, .val (.ref r2)] [(.ref r2), (.ref a)])) (fun tT kK => ?_) ?_
  · show Steps pP.tables eE below (T6_.setTop (mkF mM 14 #[.val (.ref a), .val (.long q0), .second, .val (.long q1), .second, .val (.ref r2)] [])) tT
    refine XS.aloadN X6_.here hx rfl (Jvm.hb hby own_d4_14) rfl rfl ?_
    show Steps pP.tables eE below (T6_.setTop (mkF mM 15 #[.val (.ref a), .val (.long q0), .second, .val (.long q1), .second, .val (.ref r2)] [(.ref a)])) tT
    refine XS.aload X6_.here hx rfl (Jvm.hb hby own_d4_15) rfl rfl ?_
    show Steps pP.tables eE below (T6_.setTop (mkF mM 17 #[.val (.ref a), .val (.long q0), .second, .val (.long q1), .second, .val (.ref r2)] [(.ref r2), (.ref a)])) tT
    exact kK
  obtain ⟨T10_, h10_, X10_, e10_, W10_, st10_⟩ := putF X6_ hx hZ hown (host := "") (Or.inl (hw _ (List.mem_of_getElem? (i := 32) rfl))) Via.refl e6_ fc9_ fc7_ (Or.inr ⟨(hw _ (List.mem_of_getElem? (i := 33) rfl)), rfl, hnm⟩) (hw _ (List.mem_of_getElem? (i := 21) rfl)) (ty := (.array .byte)) (by decide) rfl rfl (g := (mkF mM 17 #[.val (.ref a), .val (.long q0), .second, .val (.long q1), .second, .val (.ref r2)] [(.ref r2), (.ref a)])) rfl rfl (Jvm.hb hby own_d4_17)
  have Fw10_ := fc9_.same W10_
  have fc11_ := fc7_.wr W10_
  have fc12_ := fc8_.other W10_ (Or.inr (slot_ne (Or.inr (hw _ (List.mem_of_getElem? (i := 29) rfl))) (Or.inr (hw _ (List.mem_of_getElem? (i := 33) rfl))) (by decide) (t := .long) (t' := (.array .byte)) (by decide) (by decide)))
  have fc13_ := Fw6_.other W10_ (Or.inr (slot_ne (Or.inr (hw _ (List.mem_of_getElem? (i := 31) rfl))) (Or.inr (hw _ (List.mem_of_getElem? (i := 33) rfl))) (by decide) (t := .long) (t' := (.array .byte)) (by decide) (by decide)))
  have K10_ := K6_.wr W10_ (Or.inl (List.mem_of_getElem? (i := 0) rfl))
  have N10_ := Fr.snoc X10_ N6_ ga
  refine own_fin st10_ ?_
  show own_Fin pP eE below _ (T10_.setTop (mkF mM 20 #[.val (.ref a), .val (.long q0), .second, .val (.long q1), .second, .val (.ref r2)] []))
  obtain ⟨fs, hr, hrun, hended, hW, hsame⟩ := X10_.leave (v := none) (fun _ => rfl)
  refine ⟨_, _, ?_, hrun, hended, _, _, rfl, ?_, ⟨_, rfl⟩, hW, hsame.mono (by decide) (by decide)⟩
  · show Steps pP.tables eE below (T10_.setTop (mkF mM 20 #[.val (.ref a), .val (.long q0), .second, .val (.long q1), .second, .val (.ref r2)] [])) _
    exact X10_.returnOut hx Bd.returns (Jvm.hb hby own_d4_20) hr
  · show Q_rm_log Z a q0 q1 r2 h0 n0 _ T10_.heap _
    rw [e10_]
    exact ⟨rfl, N10_, K10_, fc11_, fc12_, fc13_, Fw10_⟩
theorem own_d3_0 : decode prog_9_method_5_code 0 = .ok (.aload_n 1, 1) := by decide +kernel
theorem own_d3_1 : decode prog_9_method_5_code 1 = .ok (.instanceof 8, 3) := by decide +kernel
theorem own_d3_4 : decode prog_9_method_5_code 4 = .ok (.ifCond .eq 36, 3) := by decide +kernel
theorem own_d3_7 : decode prog_9_method_5_code 7 = .ok (.aload_n 1, 1) := by decide +kernel
theorem own_d3_8 : decode prog_9_method_5_code 8 = .ok (.checkcast 8, 3) := by decide +kernel
theorem own_d3_11 : decode prog_9_method_5_code 11 = .ok (.astore_n 2, 1) := by decide +kernel
theorem own_d3_12 : decode prog_9_method_5_code 12 = .ok (.aload_n 2, 1) := by decide +kernel
theorem own_d3_13 : decode prog_9_method_5_code 13 = .ok (.getfield 7, 3) := by decide +kernel
theorem own_d3_16 : decode prog_9_method_5_code 16 = .ok (.aload_n 0, 1) := by decide +kernel
theorem own_d3_17 : decode prog_9_method_5_code 17 = .ok (.getfield 7, 3) := by decide +kernel
theorem own_d3_20 : decode prog_9_method_5_code 20 = .ok (.lcmp, 1) := by decide +kernel
theorem own_d3_21 : decode prog_9_method_5_code 21 = .ok (.ifCond .ne 19, 3) := by decide +kernel
theorem own_d3_24 : decode prog_9_method_5_code 24 = .ok (.aload_n 2, 1) := by decide +kernel
theorem own_d3_25 : decode prog_9_method_5_code 25 = .ok (.getfield 13, 3) := by decide +kernel
theorem own_d3_28 : decode prog_9_method_5_code 28 = .ok (.aload_n 0, 1) := by decide +kernel
theorem own_d3_29 : decode prog_9_method_5_code 29 = .ok (.getfield 13, 3) := by decide +kernel
theorem own_d3_32 : decode prog_9_method_5_code 32 = .ok (.lcmp, 1) := by decide +kernel
theorem own_d3_33 : decode prog_9_method_5_code 33 = .ok (.ifCond .ne 7, 3) := by decide +kernel
theorem own_d3_36 : decode prog_9_method_5_code 36 = .ok (.iconst 1, 1) := by decide +kernel
theorem own_d3_37 : decode prog_9_method_5_code 37 = .ok (.goto 4, 3) := by decide +kernel
theorem own_d3_41 : decode prog_9_method_5_code 41 = .ok (.ireturn, 1) := by decide +kernel
theorem own_d3_40 : decode prog_9_method_5_code 40 = .ok (.iconst 0, 1) := by decide +kernel
theorem own_ef_rm_eq (mM : MethodId) (x0 : Addr) (x1 : Addr) : entryFrame mM #[(.ref x0), (.ref x1)] 3 = mkF mM 0 #[.val (.ref x0), .val (.ref x1), .unset] [] := by first | (simp [entryFrame, mkF, argsToLocals, Value.category]; done) | rfl
def Q_rm_eq (Z : State) (a : Addr) (o : Addr) (u1 : Int64) (u2 : Int64) (v1 : Int64) (v2 : Int64) (h0 : Heap) (n0 : Nat) (vV : Option Value) (hH : Heap) (lA : List Loc) : Prop := vV = some (.int (if v1 = u1 then (if v2 = u2 then (1 : Int32) else (0 : Int32)) else (0 : Int32))) ∧ Fr n0 lA ∧ (hH = h0)
set_option maxRecDepth 65536 in
set_option maxHeartbeats 40000000 in
theorem rm_eq (lL : Launch) (Z : State) (a0 : Array Value) (hw : ∀ d ∈ tables_1, d.before a0 Z = true) (ws : List Jvm.Cond) (a : Addr) (o : Addr) (u1 : Int64) (u2 : Int64) (v1 : Int64) (v2 : Int64) (h0 : Heap) (n0 : Nat) (Z0 : n0 ≤ h0.size) (Eo : Exa Z h0 o "com/example/epoch/epoch/Hole") (Fa1 : Fld Z h0 a "com/example/epoch/epoch/Hole" "first" "J" (.long u1)) (Fa2 : Fld Z h0 a "com/example/epoch/epoch/Hole" "last" "J" (.long u2)) (Fo1 : Fld Z h0 o "com/example/epoch/epoch/Hole" "first" "J" (.long v1)) (Fo2 : Fld Z h0 o "com/example/epoch/epoch/Hole" "last" "J" (.long v2)) :
    MetFree lL (⟨"com/example/epoch/epoch/Hole", "equals", "(Ljava/lang/Object;)Z"⟩ : MethodName) (head1 (Jvm.Cond.code (⟨"com/example/epoch/epoch/Hole", "equals", "(Ljava/lang/Object;)Z"⟩ : MethodName) prog_9_method_5_code 3 (some .boolean) :: ws) ({ frames := 0, cells := 0, slots := 0, locals := 0 } : Room)) (fun aA uU => aA = #[(.ref a), (.ref o)] ∧ Z.Warmed39 uU.vm ∧ uU.heap = h0) (fun _ _ _ _ _ => True) (fun _ uU oO uU' => ∃ vV lA, oO = .returned vV ∧ Q_rm_eq Z a o u1 u2 v1 v2 h0 n0 vV uU'.heap lA ∧ FrameEnd uU oO uU' lA ({ frames := 0, cells := 0, slots := 0, locals := 0 } : Room).cells ({ frames := 0, cells := 0, slots := 0, locals := 0 } : Room).slots) := by
  refine MetFree.of_bodySF (plainFor_of_name own_pn_com_example_epoch_epoch_Hole) hisR ?_
  intro pP eE sS mM args below meth cC s₁ Bd hml0 hP hK
  obtain ⟨rfl, hZ, hh⟩ := hP
  have hx := Bd.exec
  have hby := Bd.bytes
  have hml : cC.maxLocals = 3 := hml0
  have hown : sS.vm.findClass "com/example/epoch/epoch/Hole" = some mM.cls := findClass_of_methodNamed Bd.named
  have hnm := (name_of_methodNamed Bd.named Bd.method).1
  have X0 : Stand pP lL eE ({ frames := 0, cells := 0, slots := 0, locals := 0 } : Room) sS mM #[(.ref a), (.ref o)] below meth cC s₁ [] 0 0 := Stand.of_body Bd
  have e0 : s₁.heap = h0 := by rw [← hh, Bd.state]; rfl
  have N0 := Fr.nil n0
  have K0 := Keep.refl h0 ([] : List Addr)
  show own_Fin pP eE below (fun tT oO => ∃ vV lA, oO = .returned vV ∧ Q_rm_eq Z a o u1 u2 v1 v2 h0 n0 vV tT.heap lA ∧ FrameEnd sS oO tT lA ({ frames := 0, cells := 0, slots := 0, locals := 0 } : Room).cells ({ frames := 0, cells := 0, slots := 0, locals := 0 } : Room).slots) (s₁.setTop (entryFrame mM #[(.ref a), (.ref o)] 3))
  refine own_fin (b := s₁.setTop (mkF mM 0 #[.val (.ref a), .val (.ref o), .unset] [])) (fun tT kK => castTop (own_ef_rm_eq mM a o) kK) ?_
  refine own_fin (b := s₁.setTop (mkF mM 1 #[.val (.ref a), .val (.ref o), .unset] [(.ref o)])) (fun tT kK => ?_) ?_
  · show Steps pP.tables eE below (s₁.setTop (mkF mM 0 #[.val (.ref a), .val (.ref o), .unset] [])) tT
    refine XS.aloadN X0.here hx rfl (Jvm.hb hby own_d3_0) rfl rfl ?_
    show Steps pP.tables eE below (s₁.setTop (mkF mM 1 #[.val (.ref a), .val (.ref o), .unset] [(.ref o)])) tT
    exact kK
  obtain ⟨T1_, X1_, e1_, st1_⟩ := instY X0 hx hZ hown (hw _ (List.mem_of_getElem? (i := 18) rfl)) e0 (Ins.self Eo) (g := (mkF mM 1 #[.val (.ref a), .val (.ref o), .unset] [(.ref o)])) rfl rfl (Jvm.hb hby own_d3_1)
  refine own_fin st1_ ?_
  show own_Fin pP eE below _ (T1_.setTop (mkF mM 4 #[.val (.ref a), .val (.ref o), .unset] [(.int (1 : Int32))]))
  refine own_fin (b := T1_.setTop (mkF mM 8 #[.val (.ref a), .val (.ref o), .unset] [(.ref o)])) (fun tT kK => ?_) ?_
  · show Steps pP.tables eE below (T1_.setTop (mkF mM 4 #[.val (.ref a), .val (.ref o), .unset] [(.int (1 : Int32))])) tT
    refine XS.ifNo X1_.here hx rfl (Jvm.hb hby own_d3_4) rfl ((if0 _ _).trans (feq ((by decide) : ¬ ((1 : Int32) = (0 : Int32)))).1) ?_
    show Steps pP.tables eE below (T1_.setTop (mkF mM 7 #[.val (.ref a), .val (.ref o), .unset] [])) tT
    refine XS.aloadN X1_.here hx rfl (Jvm.hb hby own_d3_7) rfl rfl ?_
    show Steps pP.tables eE below (T1_.setTop (mkF mM 8 #[.val (.ref a), .val (.ref o), .unset] [(.ref o)])) tT
    exact kK
  obtain ⟨T2_, X2_, e2_, st2_⟩ := castY X1_ hx hZ hown (hw _ (List.mem_of_getElem? (i := 18) rfl)) e1_ (Ins.self Eo) (g := (mkF mM 8 #[.val (.ref a), .val (.ref o), .unset] [(.ref o)])) rfl rfl (Jvm.hb hby own_d3_8)
  refine own_fin st2_ ?_
  show own_Fin pP eE below _ (T2_.setTop (mkF mM 11 #[.val (.ref a), .val (.ref o), .unset] [(.ref o)]))
  refine own_fin (b := T2_.setTop (mkF mM 13 #[.val (.ref a), .val (.ref o), .val (.ref o)] [(.ref o)])) (fun tT kK => ?_) ?_
  · show Steps pP.tables eE below (T2_.setTop (mkF mM 11 #[.val (.ref a), .val (.ref o), .unset] [(.ref o)])) tT
    refine XS.astoreN X2_.here hx rfl (Jvm.hb hby own_d3_11) rfl rfl (l' := #[.val (.ref a), .val (.ref o), .val (.ref o)]) rfl ?_
    show Steps pP.tables eE below (T2_.setTop (mkF mM 12 #[.val (.ref a), .val (.ref o), .val (.ref o)] [])) tT
    refine XS.aloadN X2_.here hx rfl (Jvm.hb hby own_d3_12) rfl rfl ?_
    show Steps pP.tables eE below (T2_.setTop (mkF mM 13 #[.val (.ref a), .val (.ref o), .val (.ref o)] [(.ref o)])) tT
    exact kK
  obtain ⟨T3_, X3_, e3_, st3_⟩ := getF X2_ hx hZ hown (host := "") (Or.inl (hw _ (List.mem_of_getElem? (i := 9) rfl))) Via.refl e2_ Fo1 (g := (mkF mM 13 #[.val (.ref a), .val (.ref o), .val (.ref o)] [(.ref o)])) rfl rfl (Jvm.hb hby own_d3_13)
  refine own_fin st3_ ?_
  show own_Fin pP eE below _ (T3_.setTop (mkF mM 16 #[.val (.ref a), .val (.ref o), .val (.ref o)] [(.long v1)]))
  refine own_fin (b := T3_.setTop (mkF mM 17 #[.val (.ref a), .val (.ref o), .val (.ref o)] [(.ref a), (.long v1)])) (fun tT kK => ?_) ?_
  · show Steps pP.tables eE below (T3_.setTop (mkF mM 16 #[.val (.ref a), .val (.ref o), .val (.ref o)] [(.long v1)])) tT
    refine XS.aloadN X3_.here hx rfl (Jvm.hb hby own_d3_16) rfl rfl ?_
    show Steps pP.tables eE below (T3_.setTop (mkF mM 17 #[.val (.ref a), .val (.ref o), .val (.ref o)] [(.ref a), (.long v1)])) tT
    exact kK
  obtain ⟨T4_, X4_, e4_, st4_⟩ := getF X3_ hx hZ hown (host := "") (Or.inl (hw _ (List.mem_of_getElem? (i := 9) rfl))) Via.refl e3_ Fa1 (g := (mkF mM 17 #[.val (.ref a), .val (.ref o), .val (.ref o)] [(.ref a), (.long v1)])) rfl rfl (Jvm.hb hby own_d3_17)
  refine own_fin st4_ ?_
  show own_Fin pP eE below _ (T4_.setTop (mkF mM 20 #[.val (.ref a), .val (.ref o), .val (.ref o)] [(.long u1), (.long v1)]))
  refine own_fin (b := T4_.setTop (mkF mM 21 #[.val (.ref a), .val (.ref o), .val (.ref o)] [(.int (lcmpW v1 u1))])) (fun tT kK => ?_) ?_
  · show Steps pP.tables eE below (T4_.setTop (mkF mM 20 #[.val (.ref a), .val (.ref o), .val (.ref o)] [(.long u1), (.long v1)])) tT
    refine XS.lcmp X4_.here hx rfl (Jvm.hb hby own_d3_20) rfl ?_
    show Steps pP.tables eE below (T4_.setTop (mkF mM 21 #[.val (.ref a), .val (.ref o), .val (.ref o)] [(.int (lcmpW v1 u1))])) tT
    exact kK
  by_cases hc21_5_ : v1 = u1
  · refine own_fin (b := T4_.setTop (mkF mM 25 #[.val (.ref a), .val (.ref o), .val (.ref o)] [(.ref o)])) (fun tT kK => ?_) ?_
    · show Steps pP.tables eE below (T4_.setTop (mkF mM 21 #[.val (.ref a), .val (.ref o), .val (.ref o)] [(.int (lcmpW v1 u1))])) tT
      refine XS.ifNo X4_.here hx rfl (Jvm.hb hby own_d3_21) rfl ((if0 _ _).trans (teq ((lw_eq v1 u1).mpr (hc21_5_ : v1 = u1))).2) ?_
      show Steps pP.tables eE below (T4_.setTop (mkF mM 24 #[.val (.ref a), .val (.ref o), .val (.ref o)] [])) tT
      refine XS.aloadN X4_.here hx rfl (Jvm.hb hby own_d3_24) rfl rfl ?_
      show Steps pP.tables eE below (T4_.setTop (mkF mM 25 #[.val (.ref a), .val (.ref o), .val (.ref o)] [(.ref o)])) tT
      exact kK
    obtain ⟨T6_, X6_, e6_, st6_⟩ := getF X4_ hx hZ hown (host := "") (Or.inl (hw _ (List.mem_of_getElem? (i := 11) rfl))) Via.refl e4_ Fo2 (g := (mkF mM 25 #[.val (.ref a), .val (.ref o), .val (.ref o)] [(.ref o)])) rfl rfl (Jvm.hb hby own_d3_25)
    refine own_fin st6_ ?_
    show own_Fin pP eE below _ (T6_.setTop (mkF mM 28 #[.val (.ref a), .val (.ref o), .val (.ref o)] [(.long v2)]))
    refine own_fin (b := T6_.setTop (mkF mM 29 #[.val (.ref a), .val (.ref o), .val (.ref o)] [(.ref a), (.long v2)])) (fun tT kK => ?_) ?_
    · show Steps pP.tables eE below (T6_.setTop (mkF mM 28 #[.val (.ref a), .val (.ref o), .val (.ref o)] [(.long v2)])) tT
      refine XS.aloadN X6_.here hx rfl (Jvm.hb hby own_d3_28) rfl rfl ?_
      show Steps pP.tables eE below (T6_.setTop (mkF mM 29 #[.val (.ref a), .val (.ref o), .val (.ref o)] [(.ref a), (.long v2)])) tT
      exact kK
    obtain ⟨T7_, X7_, e7_, st7_⟩ := getF X6_ hx hZ hown (host := "") (Or.inl (hw _ (List.mem_of_getElem? (i := 11) rfl))) Via.refl e6_ Fa2 (g := (mkF mM 29 #[.val (.ref a), .val (.ref o), .val (.ref o)] [(.ref a), (.long v2)])) rfl rfl (Jvm.hb hby own_d3_29)
    refine own_fin st7_ ?_
    show own_Fin pP eE below _ (T7_.setTop (mkF mM 32 #[.val (.ref a), .val (.ref o), .val (.ref o)] [(.long u2), (.long v2)]))
    refine own_fin (b := T7_.setTop (mkF mM 33 #[.val (.ref a), .val (.ref o), .val (.ref o)] [(.int (lcmpW v2 u2))])) (fun tT kK => ?_) ?_
    · show Steps pP.tables eE below (T7_.setTop (mkF mM 32 #[.val (.ref a), .val (.ref o), .val (.ref o)] [(.long u2), (.long v2)])) tT
      refine XS.lcmp X7_.here hx rfl (Jvm.hb hby own_d3_32) rfl ?_
      show Steps pP.tables eE below (T7_.setTop (mkF mM 33 #[.val (.ref a), .val (.ref o), .val (.ref o)] [(.int (lcmpW v2 u2))])) tT
      exact kK
    by_cases hc33_8_ : v2 = u2
    · refine own_fin (b := T7_.setTop (mkF mM 41 #[.val (.ref a), .val (.ref o), .val (.ref o)] [(.int (1 : Int32))])) (fun tT kK => ?_) ?_
      · show Steps pP.tables eE below (T7_.setTop (mkF mM 33 #[.val (.ref a), .val (.ref o), .val (.ref o)] [(.int (lcmpW v2 u2))])) tT
        refine XS.ifNo X7_.here hx rfl (Jvm.hb hby own_d3_33) rfl ((if0 _ _).trans (teq ((lw_eq v2 u2).mpr (hc33_8_ : v2 = u2))).2) ?_
        show Steps pP.tables eE below (T7_.setTop (mkF mM 36 #[.val (.ref a), .val (.ref o), .val (.ref o)] [])) tT
        refine XS.iconst X7_.here hx rfl (Jvm.hb hby own_d3_36) ?_
        show Steps pP.tables eE below (T7_.setTop (mkF mM 37 #[.val (.ref a), .val (.ref o), .val (.ref o)] [(.int (1 : Int32))])) tT
        refine XS.goto X7_.here hx rfl (pc0 := 37) (pc' := 41) rfl (Jvm.hb hby own_d3_37) (by decide) (by decide) ?_
        show Steps pP.tables eE below (T7_.setTop (mkF mM 41 #[.val (.ref a), .val (.ref o), .val (.ref o)] [(.int (1 : Int32))])) tT
        exact kK
      obtain ⟨fs, hr, hrun, hended, hW, hsame⟩ := X7_.leave (v := some (.int (1 : Int32))) (fun h => by rw [Bd.returns] at h; cases h)
      refine ⟨_, _, ?_, hrun, hended, _, _, rfl, ?_, ⟨_, rfl⟩, hW, hsame.mono (by decide) (by decide)⟩
      · show Steps pP.tables eE below (T7_.setTop (mkF mM 41 #[.val (.ref a), .val (.ref o), .val (.ref o)] [(.int (1 : Int32))])) _
        exact retN X7_ hx (t := .boolean) Bd.returns (by simp) (Jvm.hb hby own_d3_41) hr
      · show Q_rm_eq Z a o u1 u2 v1 v2 h0 n0 _ T7_.heap _
        rw [e7_]
        exact ⟨by rw [if_pos hc21_5_, if_pos hc33_8_], N0, rfl⟩
    · refine own_fin (b := T7_.setTop (mkF mM 41 #[.val (.ref a), .val (.ref o), .val (.ref o)] [(.int (0 : Int32))])) (fun tT kK => ?_) ?_
      · show Steps pP.tables eE below (T7_.setTop (mkF mM 33 #[.val (.ref a), .val (.ref o), .val (.ref o)] [(.int (lcmpW v2 u2))])) tT
        refine XS.ifYes X7_.here hx rfl (pc0 := 33) (pc' := 40) rfl (Jvm.hb hby own_d3_33) rfl ((if0 _ _).trans (feq (mt (lw_eq v2 u2).mp (hc33_8_ : ¬ (v2 = u2)))).2) (by decide) (by decide) ?_
        show Steps pP.tables eE below (T7_.setTop (mkF mM 40 #[.val (.ref a), .val (.ref o), .val (.ref o)] [])) tT
        refine XS.iconst X7_.here hx rfl (Jvm.hb hby own_d3_40) ?_
        show Steps pP.tables eE below (T7_.setTop (mkF mM 41 #[.val (.ref a), .val (.ref o), .val (.ref o)] [(.int (0 : Int32))])) tT
        exact kK
      obtain ⟨fs, hr, hrun, hended, hW, hsame⟩ := X7_.leave (v := some (.int (0 : Int32))) (fun h => by rw [Bd.returns] at h; cases h)
      refine ⟨_, _, ?_, hrun, hended, _, _, rfl, ?_, ⟨_, rfl⟩, hW, hsame.mono (by decide) (by decide)⟩
      · show Steps pP.tables eE below (T7_.setTop (mkF mM 41 #[.val (.ref a), .val (.ref o), .val (.ref o)] [(.int (0 : Int32))])) _
        exact retN X7_ hx (t := .boolean) Bd.returns (by simp) (Jvm.hb hby own_d3_41) hr
      · show Q_rm_eq Z a o u1 u2 v1 v2 h0 n0 _ T7_.heap _
        rw [e7_]
        exact ⟨by rw [if_pos hc21_5_, if_neg hc33_8_], N0, rfl⟩
  · refine own_fin (b := T4_.setTop (mkF mM 41 #[.val (.ref a), .val (.ref o), .val (.ref o)] [(.int (0 : Int32))])) (fun tT kK => ?_) ?_
    · show Steps pP.tables eE below (T4_.setTop (mkF mM 21 #[.val (.ref a), .val (.ref o), .val (.ref o)] [(.int (lcmpW v1 u1))])) tT
      refine XS.ifYes X4_.here hx rfl (pc0 := 21) (pc' := 40) rfl (Jvm.hb hby own_d3_21) rfl ((if0 _ _).trans (feq (mt (lw_eq v1 u1).mp (hc21_5_ : ¬ (v1 = u1)))).2) (by decide) (by decide) ?_
      show Steps pP.tables eE below (T4_.setTop (mkF mM 40 #[.val (.ref a), .val (.ref o), .val (.ref o)] [])) tT
      refine XS.iconst X4_.here hx rfl (Jvm.hb hby own_d3_40) ?_
      show Steps pP.tables eE below (T4_.setTop (mkF mM 41 #[.val (.ref a), .val (.ref o), .val (.ref o)] [(.int (0 : Int32))])) tT
      exact kK
    obtain ⟨fs, hr, hrun, hended, hW, hsame⟩ := X4_.leave (v := some (.int (0 : Int32))) (fun h => by rw [Bd.returns] at h; cases h)
    refine ⟨_, _, ?_, hrun, hended, _, _, rfl, ?_, ⟨_, rfl⟩, hW, hsame.mono (by decide) (by decide)⟩
    · show Steps pP.tables eE below (T4_.setTop (mkF mM 41 #[.val (.ref a), .val (.ref o), .val (.ref o)] [(.int (0 : Int32))])) _
      exact retN X4_ hx (t := .boolean) Bd.returns (by simp) (Jvm.hb hby own_d3_41) hr
    · show Q_rm_eq Z a o u1 u2 v1 v2 h0 n0 _ T4_.heap _
      rw [e4_]
      exact ⟨by rw [if_neg hc21_5_], N0, rfl⟩
theorem own_ef_rm_self (mM : MethodId) (x0 : Addr) (x1 : Addr) : entryFrame mM #[(.ref x0), (.ref x1)] 3 = mkF mM 0 #[.val (.ref x0), .val (.ref x1), .unset] [] := by first | (simp [entryFrame, mkF, argsToLocals, Value.category]; done) | rfl
def Q_rm_self (Z : State) (a : Addr) (u1 : Int64) (u2 : Int64) (h0 : Heap) (n0 : Nat) (vV : Option Value) (hH : Heap) (lA : List Loc) : Prop := vV = some (.int (1 : Int32)) ∧ Fr n0 lA ∧ (hH = h0)
set_option maxRecDepth 65536 in
set_option maxHeartbeats 40000000 in
theorem rm_self (lL : Launch) (Z : State) (a0 : Array Value) (hw : ∀ d ∈ tables_1, d.before a0 Z = true) (ws : List Jvm.Cond) (a : Addr) (u1 : Int64) (u2 : Int64) (h0 : Heap) (n0 : Nat) (Z0 : n0 ≤ h0.size) (Eo : Exa Z h0 a "com/example/epoch/epoch/Hole") (Fa1 : Fld Z h0 a "com/example/epoch/epoch/Hole" "first" "J" (.long u1)) (Fa2 : Fld Z h0 a "com/example/epoch/epoch/Hole" "last" "J" (.long u2)) :
    MetFree lL (⟨"com/example/epoch/epoch/Hole", "equals", "(Ljava/lang/Object;)Z"⟩ : MethodName) (head1 (Jvm.Cond.code (⟨"com/example/epoch/epoch/Hole", "equals", "(Ljava/lang/Object;)Z"⟩ : MethodName) prog_9_method_5_code 3 (some .boolean) :: ws) ({ frames := 0, cells := 0, slots := 0, locals := 0 } : Room)) (fun aA uU => aA = #[(.ref a), (.ref a)] ∧ Z.Warmed39 uU.vm ∧ uU.heap = h0) (fun _ _ _ _ _ => True) (fun _ uU oO uU' => ∃ vV lA, oO = .returned vV ∧ Q_rm_self Z a u1 u2 h0 n0 vV uU'.heap lA ∧ FrameEnd uU oO uU' lA ({ frames := 0, cells := 0, slots := 0, locals := 0 } : Room).cells ({ frames := 0, cells := 0, slots := 0, locals := 0 } : Room).slots) := by
  refine MetFree.of_bodySF (plainFor_of_name own_pn_com_example_epoch_epoch_Hole) hisR ?_
  intro pP eE sS mM args below meth cC s₁ Bd hml0 hP hK
  obtain ⟨rfl, hZ, hh⟩ := hP
  have hx := Bd.exec
  have hby := Bd.bytes
  have hml : cC.maxLocals = 3 := hml0
  have hown : sS.vm.findClass "com/example/epoch/epoch/Hole" = some mM.cls := findClass_of_methodNamed Bd.named
  have hnm := (name_of_methodNamed Bd.named Bd.method).1
  have X0 : Stand pP lL eE ({ frames := 0, cells := 0, slots := 0, locals := 0 } : Room) sS mM #[(.ref a), (.ref a)] below meth cC s₁ [] 0 0 := Stand.of_body Bd
  have e0 : s₁.heap = h0 := by rw [← hh, Bd.state]; rfl
  have N0 := Fr.nil n0
  have K0 := Keep.refl h0 ([] : List Addr)
  show own_Fin pP eE below (fun tT oO => ∃ vV lA, oO = .returned vV ∧ Q_rm_self Z a u1 u2 h0 n0 vV tT.heap lA ∧ FrameEnd sS oO tT lA ({ frames := 0, cells := 0, slots := 0, locals := 0 } : Room).cells ({ frames := 0, cells := 0, slots := 0, locals := 0 } : Room).slots) (s₁.setTop (entryFrame mM #[(.ref a), (.ref a)] 3))
  refine own_fin (b := s₁.setTop (mkF mM 0 #[.val (.ref a), .val (.ref a), .unset] [])) (fun tT kK => castTop (own_ef_rm_self mM a a) kK) ?_
  refine own_fin (b := s₁.setTop (mkF mM 1 #[.val (.ref a), .val (.ref a), .unset] [(.ref a)])) (fun tT kK => ?_) ?_
  · show Steps pP.tables eE below (s₁.setTop (mkF mM 0 #[.val (.ref a), .val (.ref a), .unset] [])) tT
    refine XS.aloadN X0.here hx rfl (Jvm.hb hby own_d3_0) rfl rfl ?_
    show Steps pP.tables eE below (s₁.setTop (mkF mM 1 #[.val (.ref a), .val (.ref a), .unset] [(.ref a)])) tT
    exact kK
  obtain ⟨T1_, X1_, e1_, st1_⟩ := instY X0 hx hZ hown (hw _ (List.mem_of_getElem? (i := 18) rfl)) e0 (Ins.self Eo) (g := (mkF mM 1 #[.val (.ref a), .val (.ref a), .unset] [(.ref a)])) rfl rfl (Jvm.hb hby own_d3_1)
  refine own_fin st1_ ?_
  show own_Fin pP eE below _ (T1_.setTop (mkF mM 4 #[.val (.ref a), .val (.ref a), .unset] [(.int (1 : Int32))]))
  refine own_fin (b := T1_.setTop (mkF mM 8 #[.val (.ref a), .val (.ref a), .unset] [(.ref a)])) (fun tT kK => ?_) ?_
  · show Steps pP.tables eE below (T1_.setTop (mkF mM 4 #[.val (.ref a), .val (.ref a), .unset] [(.int (1 : Int32))])) tT
    refine XS.ifNo X1_.here hx rfl (Jvm.hb hby own_d3_4) rfl ((if0 _ _).trans (feq ((by decide) : ¬ ((1 : Int32) = (0 : Int32)))).1) ?_
    show Steps pP.tables eE below (T1_.setTop (mkF mM 7 #[.val (.ref a), .val (.ref a), .unset] [])) tT
    refine XS.aloadN X1_.here hx rfl (Jvm.hb hby own_d3_7) rfl rfl ?_
    show Steps pP.tables eE below (T1_.setTop (mkF mM 8 #[.val (.ref a), .val (.ref a), .unset] [(.ref a)])) tT
    exact kK
  obtain ⟨T2_, X2_, e2_, st2_⟩ := castY X1_ hx hZ hown (hw _ (List.mem_of_getElem? (i := 18) rfl)) e1_ (Ins.self Eo) (g := (mkF mM 8 #[.val (.ref a), .val (.ref a), .unset] [(.ref a)])) rfl rfl (Jvm.hb hby own_d3_8)
  refine own_fin st2_ ?_
  show own_Fin pP eE below _ (T2_.setTop (mkF mM 11 #[.val (.ref a), .val (.ref a), .unset] [(.ref a)]))
  refine own_fin (b := T2_.setTop (mkF mM 13 #[.val (.ref a), .val (.ref a), .val (.ref a)] [(.ref a)])) (fun tT kK => ?_) ?_
  · show Steps pP.tables eE below (T2_.setTop (mkF mM 11 #[.val (.ref a), .val (.ref a), .unset] [(.ref a)])) tT
    refine XS.astoreN X2_.here hx rfl (Jvm.hb hby own_d3_11) rfl rfl (l' := #[.val (.ref a), .val (.ref a), .val (.ref a)]) rfl ?_
    show Steps pP.tables eE below (T2_.setTop (mkF mM 12 #[.val (.ref a), .val (.ref a), .val (.ref a)] [])) tT
    refine XS.aloadN X2_.here hx rfl (Jvm.hb hby own_d3_12) rfl rfl ?_
    show Steps pP.tables eE below (T2_.setTop (mkF mM 13 #[.val (.ref a), .val (.ref a), .val (.ref a)] [(.ref a)])) tT
    exact kK
  obtain ⟨T3_, X3_, e3_, st3_⟩ := getF X2_ hx hZ hown (host := "") (Or.inl (hw _ (List.mem_of_getElem? (i := 9) rfl))) Via.refl e2_ Fa1 (g := (mkF mM 13 #[.val (.ref a), .val (.ref a), .val (.ref a)] [(.ref a)])) rfl rfl (Jvm.hb hby own_d3_13)
  refine own_fin st3_ ?_
  show own_Fin pP eE below _ (T3_.setTop (mkF mM 16 #[.val (.ref a), .val (.ref a), .val (.ref a)] [(.long u1)]))
  refine own_fin (b := T3_.setTop (mkF mM 17 #[.val (.ref a), .val (.ref a), .val (.ref a)] [(.ref a), (.long u1)])) (fun tT kK => ?_) ?_
  · show Steps pP.tables eE below (T3_.setTop (mkF mM 16 #[.val (.ref a), .val (.ref a), .val (.ref a)] [(.long u1)])) tT
    refine XS.aloadN X3_.here hx rfl (Jvm.hb hby own_d3_16) rfl rfl ?_
    show Steps pP.tables eE below (T3_.setTop (mkF mM 17 #[.val (.ref a), .val (.ref a), .val (.ref a)] [(.ref a), (.long u1)])) tT
    exact kK
  obtain ⟨T4_, X4_, e4_, st4_⟩ := getF X3_ hx hZ hown (host := "") (Or.inl (hw _ (List.mem_of_getElem? (i := 9) rfl))) Via.refl e3_ Fa1 (g := (mkF mM 17 #[.val (.ref a), .val (.ref a), .val (.ref a)] [(.ref a), (.long u1)])) rfl rfl (Jvm.hb hby own_d3_17)
  refine own_fin st4_ ?_
  show own_Fin pP eE below _ (T4_.setTop (mkF mM 20 #[.val (.ref a), .val (.ref a), .val (.ref a)] [(.long u1), (.long u1)]))
  refine own_fin (b := T4_.setTop (mkF mM 25 #[.val (.ref a), .val (.ref a), .val (.ref a)] [(.ref a)])) (fun tT kK => ?_) ?_
  · show Steps pP.tables eE below (T4_.setTop (mkF mM 20 #[.val (.ref a), .val (.ref a), .val (.ref a)] [(.long u1), (.long u1)])) tT
    refine XS.lcmp X4_.here hx rfl (Jvm.hb hby own_d3_20) rfl ?_
    show Steps pP.tables eE below (T4_.setTop (mkF mM 21 #[.val (.ref a), .val (.ref a), .val (.ref a)] [(.int (lcmpW u1 u1))])) tT
    refine XS.ifNo X4_.here hx rfl (Jvm.hb hby own_d3_21) rfl ((if0 _ _).trans (teq ((lw_eq u1 u1).mpr (rfl : u1 = u1))).2) ?_
    show Steps pP.tables eE below (T4_.setTop (mkF mM 24 #[.val (.ref a), .val (.ref a), .val (.ref a)] [])) tT
    refine XS.aloadN X4_.here hx rfl (Jvm.hb hby own_d3_24) rfl rfl ?_
    show Steps pP.tables eE below (T4_.setTop (mkF mM 25 #[.val (.ref a), .val (.ref a), .val (.ref a)] [(.ref a)])) tT
    exact kK
  obtain ⟨T5_, X5_, e5_, st5_⟩ := getF X4_ hx hZ hown (host := "") (Or.inl (hw _ (List.mem_of_getElem? (i := 11) rfl))) Via.refl e4_ Fa2 (g := (mkF mM 25 #[.val (.ref a), .val (.ref a), .val (.ref a)] [(.ref a)])) rfl rfl (Jvm.hb hby own_d3_25)
  refine own_fin st5_ ?_
  show own_Fin pP eE below _ (T5_.setTop (mkF mM 28 #[.val (.ref a), .val (.ref a), .val (.ref a)] [(.long u2)]))
  refine own_fin (b := T5_.setTop (mkF mM 29 #[.val (.ref a), .val (.ref a), .val (.ref a)] [(.ref a), (.long u2)])) (fun tT kK => ?_) ?_
  · show Steps pP.tables eE below (T5_.setTop (mkF mM 28 #[.val (.ref a), .val (.ref a), .val (.ref a)] [(.long u2)])) tT
    refine XS.aloadN X5_.here hx rfl (Jvm.hb hby own_d3_28) rfl rfl ?_
    show Steps pP.tables eE below (T5_.setTop (mkF mM 29 #[.val (.ref a), .val (.ref a), .val (.ref a)] [(.ref a), (.long u2)])) tT
    exact kK
  obtain ⟨T6_, X6_, e6_, st6_⟩ := getF X5_ hx hZ hown (host := "") (Or.inl (hw _ (List.mem_of_getElem? (i := 11) rfl))) Via.refl e5_ Fa2 (g := (mkF mM 29 #[.val (.ref a), .val (.ref a), .val (.ref a)] [(.ref a), (.long u2)])) rfl rfl (Jvm.hb hby own_d3_29)
  refine own_fin st6_ ?_
  show own_Fin pP eE below _ (T6_.setTop (mkF mM 32 #[.val (.ref a), .val (.ref a), .val (.ref a)] [(.long u2), (.long u2)]))
  refine own_fin (b := T6_.setTop (mkF mM 41 #[.val (.ref a), .val (.ref a), .val (.ref a)] [(.int (1 : Int32))])) (fun tT kK => ?_) ?_
  · show Steps pP.tables eE below (T6_.setTop (mkF mM 32 #[.val (.ref a), .val (.ref a), .val (.ref a)] [(.long u2), (.long u2)])) tT
    refine XS.lcmp X6_.here hx rfl (Jvm.hb hby own_d3_32) rfl ?_
    show Steps pP.tables eE below (T6_.setTop (mkF mM 33 #[.val (.ref a), .val (.ref a), .val (.ref a)] [(.int (lcmpW u2 u2))])) tT
    refine XS.ifNo X6_.here hx rfl (Jvm.hb hby own_d3_33) rfl ((if0 _ _).trans (teq ((lw_eq u2 u2).mpr (rfl : u2 = u2))).2) ?_
    show Steps pP.tables eE below (T6_.setTop (mkF mM 36 #[.val (.ref a), .val (.ref a), .val (.ref a)] [])) tT
    refine XS.iconst X6_.here hx rfl (Jvm.hb hby own_d3_36) ?_
    show Steps pP.tables eE below (T6_.setTop (mkF mM 37 #[.val (.ref a), .val (.ref a), .val (.ref a)] [(.int (1 : Int32))])) tT
    refine XS.goto X6_.here hx rfl (pc0 := 37) (pc' := 41) rfl (Jvm.hb hby own_d3_37) (by decide) (by decide) ?_
    show Steps pP.tables eE below (T6_.setTop (mkF mM 41 #[.val (.ref a), .val (.ref a), .val (.ref a)] [(.int (1 : Int32))])) tT
    exact kK
  obtain ⟨fs, hr, hrun, hended, hW, hsame⟩ := X6_.leave (v := some (.int (1 : Int32))) (fun h => by rw [Bd.returns] at h; cases h)
  refine ⟨_, _, ?_, hrun, hended, _, _, rfl, ?_, ⟨_, rfl⟩, hW, hsame.mono (by decide) (by decide)⟩
  · show Steps pP.tables eE below (T6_.setTop (mkF mM 41 #[.val (.ref a), .val (.ref a), .val (.ref a)] [(.int (1 : Int32))])) _
    exact retN X6_ hx (t := .boolean) Bd.returns (by simp) (Jvm.hb hby own_d3_41) hr
  · show Q_rm_self Z a u1 u2 h0 n0 _ T6_.heap _
    rw [e6_]
    exact ⟨rfl, N0, rfl⟩
theorem own_ef_rm_null (mM : MethodId) (x0 : Addr) : entryFrame mM #[(.ref x0), .null] 3 = mkF mM 0 #[.val (.ref x0), .val .null, .unset] [] := by first | (simp [entryFrame, mkF, argsToLocals, Value.category]; done) | rfl
def Q_rm_null (Z : State) (a : Addr) (h0 : Heap) (n0 : Nat) (vV : Option Value) (hH : Heap) (lA : List Loc) : Prop := vV = some (.int (0 : Int32)) ∧ Fr n0 lA ∧ (hH = h0)
set_option maxRecDepth 65536 in
set_option maxHeartbeats 40000000 in
theorem rm_null (lL : Launch) (Z : State) (a0 : Array Value) (hw : ∀ d ∈ tables_1, d.before a0 Z = true) (ws : List Jvm.Cond) (a : Addr) (h0 : Heap) (n0 : Nat) (Z0 : n0 ≤ h0.size) :
    MetFree lL (⟨"com/example/epoch/epoch/Hole", "equals", "(Ljava/lang/Object;)Z"⟩ : MethodName) (head1 (Jvm.Cond.code (⟨"com/example/epoch/epoch/Hole", "equals", "(Ljava/lang/Object;)Z"⟩ : MethodName) prog_9_method_5_code 3 (some .boolean) :: ws) ({ frames := 0, cells := 0, slots := 0, locals := 0 } : Room)) (fun aA uU => aA = #[(.ref a), .null] ∧ Z.Warmed39 uU.vm ∧ uU.heap = h0) (fun _ _ _ _ _ => True) (fun _ uU oO uU' => ∃ vV lA, oO = .returned vV ∧ Q_rm_null Z a h0 n0 vV uU'.heap lA ∧ FrameEnd uU oO uU' lA ({ frames := 0, cells := 0, slots := 0, locals := 0 } : Room).cells ({ frames := 0, cells := 0, slots := 0, locals := 0 } : Room).slots) := by
  refine MetFree.of_bodySF (plainFor_of_name own_pn_com_example_epoch_epoch_Hole) hisR ?_
  intro pP eE sS mM args below meth cC s₁ Bd hml0 hP hK
  obtain ⟨rfl, hZ, hh⟩ := hP
  have hx := Bd.exec
  have hby := Bd.bytes
  have hml : cC.maxLocals = 3 := hml0
  have hown : sS.vm.findClass "com/example/epoch/epoch/Hole" = some mM.cls := findClass_of_methodNamed Bd.named
  have hnm := (name_of_methodNamed Bd.named Bd.method).1
  have X0 : Stand pP lL eE ({ frames := 0, cells := 0, slots := 0, locals := 0 } : Room) sS mM #[(.ref a), .null] below meth cC s₁ [] 0 0 := Stand.of_body Bd
  have e0 : s₁.heap = h0 := by rw [← hh, Bd.state]; rfl
  have N0 := Fr.nil n0
  have K0 := Keep.refl h0 ([] : List Addr)
  show own_Fin pP eE below (fun tT oO => ∃ vV lA, oO = .returned vV ∧ Q_rm_null Z a h0 n0 vV tT.heap lA ∧ FrameEnd sS oO tT lA ({ frames := 0, cells := 0, slots := 0, locals := 0 } : Room).cells ({ frames := 0, cells := 0, slots := 0, locals := 0 } : Room).slots) (s₁.setTop (entryFrame mM #[(.ref a), .null] 3))
  refine own_fin (b := s₁.setTop (mkF mM 0 #[.val (.ref a), .val .null, .unset] [])) (fun tT kK => castTop (own_ef_rm_null mM a) kK) ?_
  refine own_fin (b := s₁.setTop (mkF mM 1 #[.val (.ref a), .val .null, .unset] [.null])) (fun tT kK => ?_) ?_
  · show Steps pP.tables eE below (s₁.setTop (mkF mM 0 #[.val (.ref a), .val .null, .unset] [])) tT
    refine XS.aloadN X0.here hx rfl (Jvm.hb hby own_d3_0) rfl rfl ?_
    show Steps pP.tables eE below (s₁.setTop (mkF mM 1 #[.val (.ref a), .val .null, .unset] [.null])) tT
    exact kK
  refine own_fin (b := s₁.setTop (mkF mM 41 #[.val (.ref a), .val .null, .unset] [(.int (0 : Int32))])) (fun tT kK => ?_) ?_
  · show Steps pP.tables eE below (s₁.setTop (mkF mM 1 #[.val (.ref a), .val .null, .unset] [.null])) tT
    refine X0.instanceofNull hx (g := (mkF mM 1 #[.val (.ref a), .val .null, .unset] [.null])) rfl rfl (Jvm.hb hby own_d3_1) _ ?_
    show Steps pP.tables eE below (s₁.setTop (mkF mM 4 #[.val (.ref a), .val .null, .unset] [(.int (0 : Int32))])) tT
    refine XS.ifYes X0.here hx rfl (pc0 := 4) (pc' := 40) rfl (Jvm.hb hby own_d3_4) rfl ((if0 _ _).trans (teq ((by decide) : (0 : Int32) = (0 : Int32))).1) (by decide) (by decide) ?_
    show Steps pP.tables eE below (s₁.setTop (mkF mM 40 #[.val (.ref a), .val .null, .unset] [])) tT
    refine XS.iconst X0.here hx rfl (Jvm.hb hby own_d3_40) ?_
    show Steps pP.tables eE below (s₁.setTop (mkF mM 41 #[.val (.ref a), .val .null, .unset] [(.int (0 : Int32))])) tT
    exact kK
  obtain ⟨fs, hr, hrun, hended, hW, hsame⟩ := X0.leave (v := some (.int (0 : Int32))) (fun h => by rw [Bd.returns] at h; cases h)
  refine ⟨_, _, ?_, hrun, hended, _, _, rfl, ?_, ⟨_, rfl⟩, hW, hsame.mono (by decide) (by decide)⟩
  · show Steps pP.tables eE below (s₁.setTop (mkF mM 41 #[.val (.ref a), .val .null, .unset] [(.int (0 : Int32))])) _
    exact retN X0 hx (t := .boolean) Bd.returns (by simp) (Jvm.hb hby own_d3_41) hr
  · show Q_rm_null Z a h0 n0 _ s₁.heap _
    rw [e0]
    exact ⟨rfl, N0, rfl⟩
theorem own_ef_rm_no (mM : MethodId) (x0 : Addr) (x1 : Addr) : entryFrame mM #[(.ref x0), (.ref x1)] 3 = mkF mM 0 #[.val (.ref x0), .val (.ref x1), .unset] [] := by first | (simp [entryFrame, mkF, argsToLocals, Value.category]; done) | rfl
def Q_rm_no (Z : State) (a : Addr) (o : Addr) (h0 : Heap) (n0 : Nat) (vV : Option Value) (hH : Heap) (lA : List Loc) : Prop := vV = some (.int (0 : Int32)) ∧ Fr n0 lA ∧ (hH = h0)
set_option maxRecDepth 65536 in
set_option maxHeartbeats 40000000 in
theorem rm_no (lL : Launch) (Z : State) (a0 : Array Value) (hw : ∀ d ∈ tables_1, d.before a0 Z = true) (ws : List Jvm.Cond) (a : Addr) (o : Addr) (h0 : Heap) (n0 : Nat) (Z0 : n0 ≤ h0.size) (Eo : Exa Z h0 o "com/example/epoch/epoch/LogEvent") :
    MetFree lL (⟨"com/example/epoch/epoch/Hole", "equals", "(Ljava/lang/Object;)Z"⟩ : MethodName) (head1 (Jvm.Cond.code (⟨"com/example/epoch/epoch/Hole", "equals", "(Ljava/lang/Object;)Z"⟩ : MethodName) prog_9_method_5_code 3 (some .boolean) :: ws) ({ frames := 0, cells := 0, slots := 0, locals := 0 } : Room)) (fun aA uU => aA = #[(.ref a), (.ref o)] ∧ Z.Warmed39 uU.vm ∧ uU.heap = h0) (fun _ _ _ _ _ => True) (fun _ uU oO uU' => ∃ vV lA, oO = .returned vV ∧ Q_rm_no Z a o h0 n0 vV uU'.heap lA ∧ FrameEnd uU oO uU' lA ({ frames := 0, cells := 0, slots := 0, locals := 0 } : Room).cells ({ frames := 0, cells := 0, slots := 0, locals := 0 } : Room).slots) := by
  refine MetFree.of_bodySF (plainFor_of_name own_pn_com_example_epoch_epoch_Hole) hisR ?_
  intro pP eE sS mM args below meth cC s₁ Bd hml0 hP hK
  obtain ⟨rfl, hZ, hh⟩ := hP
  have hx := Bd.exec
  have hby := Bd.bytes
  have hml : cC.maxLocals = 3 := hml0
  have hown : sS.vm.findClass "com/example/epoch/epoch/Hole" = some mM.cls := findClass_of_methodNamed Bd.named
  have hnm := (name_of_methodNamed Bd.named Bd.method).1
  have X0 : Stand pP lL eE ({ frames := 0, cells := 0, slots := 0, locals := 0 } : Room) sS mM #[(.ref a), (.ref o)] below meth cC s₁ [] 0 0 := Stand.of_body Bd
  have e0 : s₁.heap = h0 := by rw [← hh, Bd.state]; rfl
  have N0 := Fr.nil n0
  have K0 := Keep.refl h0 ([] : List Addr)
  show own_Fin pP eE below (fun tT oO => ∃ vV lA, oO = .returned vV ∧ Q_rm_no Z a o h0 n0 vV tT.heap lA ∧ FrameEnd sS oO tT lA ({ frames := 0, cells := 0, slots := 0, locals := 0 } : Room).cells ({ frames := 0, cells := 0, slots := 0, locals := 0 } : Room).slots) (s₁.setTop (entryFrame mM #[(.ref a), (.ref o)] 3))
  refine own_fin (b := s₁.setTop (mkF mM 0 #[.val (.ref a), .val (.ref o), .unset] [])) (fun tT kK => castTop (own_ef_rm_no mM a o) kK) ?_
  refine own_fin (b := s₁.setTop (mkF mM 1 #[.val (.ref a), .val (.ref o), .unset] [(.ref o)])) (fun tT kK => ?_) ?_
  · show Steps pP.tables eE below (s₁.setTop (mkF mM 0 #[.val (.ref a), .val (.ref o), .unset] [])) tT
    refine XS.aloadN X0.here hx rfl (Jvm.hb hby own_d3_0) rfl rfl ?_
    show Steps pP.tables eE below (s₁.setTop (mkF mM 1 #[.val (.ref a), .val (.ref o), .unset] [(.ref o)])) tT
    exact kK
  obtain ⟨T1_, X1_, e1_, st1_⟩ := instNo X0 hx hZ hown (hw _ (List.mem_of_getElem? (i := 18) rfl)) e0 Eo (own_NSno (hw _ (List.mem_of_getElem? (i := 34) rfl)) (hw _ (List.mem_of_getElem? (i := 1) rfl)) (NS.step (hw _ (List.mem_of_getElem? (i := 34) rfl)) (own_NSroot (hw _ (List.mem_of_getElem? (i := 35) rfl)) (hw _ (List.mem_of_getElem? (i := 1) rfl)) (by decide)) (by decide)) (by decide)) (g := (mkF mM 1 #[.val (.ref a), .val (.ref o), .unset] [(.ref o)])) rfl rfl (Jvm.hb hby own_d3_1)
  refine own_fin st1_ ?_
  show own_Fin pP eE below _ (T1_.setTop (mkF mM 4 #[.val (.ref a), .val (.ref o), .unset] [(.int (0 : Int32))]))
  refine own_fin (b := T1_.setTop (mkF mM 41 #[.val (.ref a), .val (.ref o), .unset] [(.int (0 : Int32))])) (fun tT kK => ?_) ?_
  · show Steps pP.tables eE below (T1_.setTop (mkF mM 4 #[.val (.ref a), .val (.ref o), .unset] [(.int (0 : Int32))])) tT
    refine XS.ifYes X1_.here hx rfl (pc0 := 4) (pc' := 40) rfl (Jvm.hb hby own_d3_4) rfl ((if0 _ _).trans (teq ((by decide) : (0 : Int32) = (0 : Int32))).1) (by decide) (by decide) ?_
    show Steps pP.tables eE below (T1_.setTop (mkF mM 40 #[.val (.ref a), .val (.ref o), .unset] [])) tT
    refine XS.iconst X1_.here hx rfl (Jvm.hb hby own_d3_40) ?_
    show Steps pP.tables eE below (T1_.setTop (mkF mM 41 #[.val (.ref a), .val (.ref o), .unset] [(.int (0 : Int32))])) tT
    exact kK
  obtain ⟨fs, hr, hrun, hended, hW, hsame⟩ := X1_.leave (v := some (.int (0 : Int32))) (fun h => by rw [Bd.returns] at h; cases h)
  refine ⟨_, _, ?_, hrun, hended, _, _, rfl, ?_, ⟨_, rfl⟩, hW, hsame.mono (by decide) (by decide)⟩
  · show Steps pP.tables eE below (T1_.setTop (mkF mM 41 #[.val (.ref a), .val (.ref o), .unset] [(.int (0 : Int32))])) _
    exact retN X1_ hx (t := .boolean) Bd.returns (by simp) (Jvm.hb hby own_d3_41) hr
  · show Q_rm_no Z a o h0 n0 _ T1_.heap _
    rw [e1_]
    exact ⟨rfl, N0, rfl⟩
theorem own_pd0 : parseMethodDescriptor "(JJ)V" = some ⟨[.long, .long], none⟩ := by decide +kernel
theorem own_pd1 : parseMethodDescriptor "(Ljava/lang/Object;)Z" = some ⟨[(.object "java/lang/Object")], some .boolean⟩ := by decide +kernel
theorem own_pd2 : parseMethodDescriptor "(JJ[B)V" = some ⟨[.long, .long, (.array .byte)], none⟩ := by decide +kernel
theorem own_pn_com_example_epoch_epoch_HoleEqualsPinLaw : plainName "com/example/epoch/epoch/HoleEqualsPinLaw" = true := by first | (simp [plainName, overriddenIn]; done) | decide +kernel
theorem own_ef_rm0 (mM : MethodId) (x0 : Int64) (x1 : Int64) (x2 : Int64) (x3 : Int64) (x4 : Int32) : entryFrame mM #[(.long x0), (.long x1), (.long x2), (.long x3), (.int x4)] maxLocals = mkF mM 0 #[.val (.long x0), .second, .val (.long x1), .second, .val (.long x2), .second, .val (.long x3), .second, .val (.int x4), .unset, .unset, .unset, .unset, .unset, .unset, .unset, .unset, .unset, .unset] [] := by first | (simp [entryFrame, mkF, argsToLocals, Value.category, maxLocals]; done) | rfl
def Q_rm0 (Z : State) (q1 : Int64) (q2 : Int64) (q3 : Int64) (q4 : Int64) (p5 : Int32) (h0 : Heap) (n0 : Nat) (vV : Option Value) (hH : Heap) (lA : List Loc) : Prop := vV = some (.int (1 : Int32)) ∧ Fr n0 lA
set_option maxRecDepth 65536 in
set_option maxHeartbeats 40000000 in
theorem rm0 (lL : Launch) (Z : State) (a0 : Array Value) (hw : ∀ d ∈ tables_1, d.before a0 Z = true) (ws : List Jvm.Cond) (q1 : Int64) (q2 : Int64) (q3 : Int64) (q4 : Int64) (p5 : Int32) (h0 : Heap) (n0 : Nat) (Z0 : n0 ≤ h0.size) :
    MetFree lL x (head1 (Jvm.Cond.code x code maxLocals ret :: ws) room_1) (fun aA uU => aA = #[(.long q1), (.long q2), (.long q3), (.long q4), (.int p5)] ∧ Z.Warmed39 uU.vm ∧ uU.heap = h0) (fun _ _ _ _ _ => True) (fun _ uU oO uU' => ∃ vV lA, oO = .returned vV ∧ Q_rm0 Z q1 q2 q3 q4 p5 h0 n0 vV uU'.heap lA ∧ FrameEnd uU oO uU' lA room_1.cells room_1.slots) := by
  refine MetFree.of_bodySF (plainFor_of_name own_pn_com_example_epoch_epoch_HoleEqualsPinLaw) hisR ?_
  intro pP eE sS mM args below meth cC s₁ Bd hml0 hP hK
  obtain ⟨rfl, hZ, hh⟩ := hP
  have hx := Bd.exec
  have hby := Bd.bytes
  have hml : cC.maxLocals = 19 := hml0
  have hown : sS.vm.findClass "com/example/epoch/epoch/HoleEqualsPinLaw" = some mM.cls := findClass_of_methodNamed Bd.named
  have hnm := (name_of_methodNamed Bd.named Bd.method).1
  have X0 : Stand pP lL eE room_1 sS mM #[(.long q1), (.long q2), (.long q3), (.long q4), (.int p5)] below meth cC s₁ [] 0 0 := Stand.of_body Bd
  have e0 : s₁.heap = h0 := by rw [← hh, Bd.state]; rfl
  have N0 := Fr.nil n0
  have K0 := Keep.refl h0 ([] : List Addr)
  show own_Fin pP eE below (fun tT oO => ∃ vV lA, oO = .returned vV ∧ Q_rm0 Z q1 q2 q3 q4 p5 h0 n0 vV tT.heap lA ∧ FrameEnd sS oO tT lA room_1.cells room_1.slots) (s₁.setTop (entryFrame mM #[(.long q1), (.long q2), (.long q3), (.long q4), (.int p5)] maxLocals))
  refine own_fin (b := s₁.setTop (mkF mM 0 #[.val (.long q1), .second, .val (.long q2), .second, .val (.long q3), .second, .val (.long q4), .second, .val (.int p5), .unset, .unset, .unset, .unset, .unset, .unset, .unset, .unset, .unset, .unset] [])) (fun tT kK => castTop (own_ef_rm0 mM q1 q2 q3 q4 p5) kK) ?_
  refine own_fin (b := s₁.setTop (mkF mM 4 #[.val (.long q1), .second, .val (.long q2), .second, .val (.long q3), .second, .val (.long q4), .second, .val (.int p5), .unset, .unset, .unset, .unset, .unset, .unset, .unset, .unset, .unset, .unset] [(.int (p5 &&& (1 : Int32)))])) (fun tT kK => ?_) ?_
  · show Steps pP.tables eE below (s₁.setTop (mkF mM 0 #[.val (.long q1), .second, .val (.long q2), .second, .val (.long q3), .second, .val (.long q4), .second, .val (.int p5), .unset, .unset, .unset, .unset, .unset, .unset, .unset, .unset, .unset, .unset] [])) tT
    refine XS.iload X0.here hx rfl (Jvm.hb hby at_0) rfl ?_
    show Steps pP.tables eE below (s₁.setTop (mkF mM 2 #[.val (.long q1), .second, .val (.long q2), .second, .val (.long q3), .second, .val (.long q4), .second, .val (.int p5), .unset, .unset, .unset, .unset, .unset, .unset, .unset, .unset, .unset, .unset] [(.int p5)])) tT
    refine XS.iconst X0.here hx rfl (Jvm.hb hby at_2) ?_
    show Steps pP.tables eE below (s₁.setTop (mkF mM 3 #[.val (.long q1), .second, .val (.long q2), .second, .val (.long q3), .second, .val (.long q4), .second, .val (.int p5), .unset, .unset, .unset, .unset, .unset, .unset, .unset, .unset, .unset, .unset] [(.int (1 : Int32)), (.int p5)])) tT
    refine XS.iand X0.here hx rfl (Jvm.hb hby at_3) rfl ?_
    show Steps pP.tables eE below (s₁.setTop (mkF mM 4 #[.val (.long q1), .second, .val (.long q2), .second, .val (.long q3), .second, .val (.long q4), .second, .val (.int p5), .unset, .unset, .unset, .unset, .unset, .unset, .unset, .unset, .unset, .unset] [(.int (p5 &&& (1 : Int32)))])) tT
    exact kK
  obtain ⟨s1_, st1_⟩ : ∃ s1_ : Int32, ∀ tT, Steps pP.tables eE below (s₁.setTop (mkF mM 12 #[.val (.long q1), .second, .val (.long q2), .second, .val (.long q3), .second, .val (.long q4), .second, .val (.int p5), .unset, .unset, .unset, .unset, .unset, .unset, .unset, .unset, .unset, .unset] [(.int s1_)])) tT → Steps pP.tables eE below (s₁.setTop (mkF mM 4 #[.val (.long q1), .second, .val (.long q2), .second, .val (.long q3), .second, .val (.long q4), .second, .val (.int p5), .unset, .unset, .unset, .unset, .unset, .unset, .unset, .unset, .unset, .unset] [(.int (p5 &&& (1 : Int32)))])) tT := by
    by_cases hm1 : (p5 &&& (1 : Int32)) = (0 : Int32)
    · refine ⟨(0 : Int32), fun tT kK => ?_⟩
      refine XS.ifYes X0.here hx rfl (pc0 := 4) (pc' := 11) rfl (Jvm.hb hby at_4) rfl ((if0 _ _).trans (teq (hm1 : (p5 &&& (1 : Int32)) = (0 : Int32))).1) (by decide) (by decide) ?_
      show Steps pP.tables eE below (s₁.setTop (mkF mM 11 #[.val (.long q1), .second, .val (.long q2), .second, .val (.long q3), .second, .val (.long q4), .second, .val (.int p5), .unset, .unset, .unset, .unset, .unset, .unset, .unset, .unset, .unset, .unset] [])) tT
      refine XS.iconst X0.here hx rfl (Jvm.hb hby at_11) ?_
      show Steps pP.tables eE below (s₁.setTop (mkF mM 12 #[.val (.long q1), .second, .val (.long q2), .second, .val (.long q3), .second, .val (.long q4), .second, .val (.int p5), .unset, .unset, .unset, .unset, .unset, .unset, .unset, .unset, .unset, .unset] [(.int (0 : Int32))])) tT
      exact kK
    · refine ⟨(1 : Int32), fun tT kK => ?_⟩
      refine XS.ifNo X0.here hx rfl (Jvm.hb hby at_4) rfl ((if0 _ _).trans (feq (hm1 : ¬ ((p5 &&& (1 : Int32)) = (0 : Int32)))).1) ?_
      show Steps pP.tables eE below (s₁.setTop (mkF mM 7 #[.val (.long q1), .second, .val (.long q2), .second, .val (.long q3), .second, .val (.long q4), .second, .val (.int p5), .unset, .unset, .unset, .unset, .unset, .unset, .unset, .unset, .unset, .unset] [])) tT
      refine XS.iconst X0.here hx rfl (Jvm.hb hby at_7) ?_
      show Steps pP.tables eE below (s₁.setTop (mkF mM 8 #[.val (.long q1), .second, .val (.long q2), .second, .val (.long q3), .second, .val (.long q4), .second, .val (.int p5), .unset, .unset, .unset, .unset, .unset, .unset, .unset, .unset, .unset, .unset] [(.int (1 : Int32))])) tT
      refine XS.goto X0.here hx rfl (pc0 := 8) (pc' := 12) rfl (Jvm.hb hby at_8) (by decide) (by decide) ?_
      show Steps pP.tables eE below (s₁.setTop (mkF mM 12 #[.val (.long q1), .second, .val (.long q2), .second, .val (.long q3), .second, .val (.long q4), .second, .val (.int p5), .unset, .unset, .unset, .unset, .unset, .unset, .unset, .unset, .unset, .unset] [(.int (1 : Int32))])) tT
      exact kK
  refine own_fin st1_ ?_
  show own_Fin pP eE below _ (s₁.setTop (mkF mM 12 #[.val (.long q1), .second, .val (.long q2), .second, .val (.long q3), .second, .val (.long q4), .second, .val (.int p5), .unset, .unset, .unset, .unset, .unset, .unset, .unset, .unset, .unset, .unset] [(.int s1_)]))
  refine own_fin (b := s₁.setTop (mkF mM 18 #[.val (.long q1), .second, .val (.long q2), .second, .val (.long q3), .second, .val (.long q4), .second, .val (.int p5), .val (.int s1_), .unset, .unset, .unset, .unset, .unset, .unset, .unset, .unset, .unset] [(.int (p5 &&& (2 : Int32)))])) (fun tT kK => ?_) ?_
  · show Steps pP.tables eE below (s₁.setTop (mkF mM 12 #[.val (.long q1), .second, .val (.long q2), .second, .val (.long q3), .second, .val (.long q4), .second, .val (.int p5), .unset, .unset, .unset, .unset, .unset, .unset, .unset, .unset, .unset, .unset] [(.int s1_)])) tT
    refine XS.istore X0.here hx rfl (Jvm.hb hby at_12) rfl (l' := #[.val (.long q1), .second, .val (.long q2), .second, .val (.long q3), .second, .val (.long q4), .second, .val (.int p5), .val (.int s1_), .unset, .unset, .unset, .unset, .unset, .unset, .unset, .unset, .unset]) rfl ?_
    show Steps pP.tables eE below (s₁.setTop (mkF mM 14 #[.val (.long q1), .second, .val (.long q2), .second, .val (.long q3), .second, .val (.long q4), .second, .val (.int p5), .val (.int s1_), .unset, .unset, .unset, .unset, .unset, .unset, .unset, .unset, .unset] [])) tT
    refine XS.iload X0.here hx rfl (Jvm.hb hby at_14) rfl ?_
    show Steps pP.tables eE below (s₁.setTop (mkF mM 16 #[.val (.long q1), .second, .val (.long q2), .second, .val (.long q3), .second, .val (.long q4), .second, .val (.int p5), .val (.int s1_), .unset, .unset, .unset, .unset, .unset, .unset, .unset, .unset, .unset] [(.int p5)])) tT
    refine XS.iconst X0.here hx rfl (Jvm.hb hby at_16) ?_
    show Steps pP.tables eE below (s₁.setTop (mkF mM 17 #[.val (.long q1), .second, .val (.long q2), .second, .val (.long q3), .second, .val (.long q4), .second, .val (.int p5), .val (.int s1_), .unset, .unset, .unset, .unset, .unset, .unset, .unset, .unset, .unset] [(.int (2 : Int32)), (.int p5)])) tT
    refine XS.iand X0.here hx rfl (Jvm.hb hby at_17) rfl ?_
    show Steps pP.tables eE below (s₁.setTop (mkF mM 18 #[.val (.long q1), .second, .val (.long q2), .second, .val (.long q3), .second, .val (.long q4), .second, .val (.int p5), .val (.int s1_), .unset, .unset, .unset, .unset, .unset, .unset, .unset, .unset, .unset] [(.int (p5 &&& (2 : Int32)))])) tT
    exact kK
  obtain ⟨s2_, st2_⟩ : ∃ s2_ : Int32, ∀ tT, Steps pP.tables eE below (s₁.setTop (mkF mM 26 #[.val (.long q1), .second, .val (.long q2), .second, .val (.long q3), .second, .val (.long q4), .second, .val (.int p5), .val (.int s1_), .unset, .unset, .unset, .unset, .unset, .unset, .unset, .unset, .unset] [(.int s2_)])) tT → Steps pP.tables eE below (s₁.setTop (mkF mM 18 #[.val (.long q1), .second, .val (.long q2), .second, .val (.long q3), .second, .val (.long q4), .second, .val (.int p5), .val (.int s1_), .unset, .unset, .unset, .unset, .unset, .unset, .unset, .unset, .unset] [(.int (p5 &&& (2 : Int32)))])) tT := by
    by_cases hm1 : (p5 &&& (2 : Int32)) = (0 : Int32)
    · refine ⟨(0 : Int32), fun tT kK => ?_⟩
      refine XS.ifYes X0.here hx rfl (pc0 := 18) (pc' := 25) rfl (Jvm.hb hby at_18) rfl ((if0 _ _).trans (teq (hm1 : (p5 &&& (2 : Int32)) = (0 : Int32))).1) (by decide) (by decide) ?_
      show Steps pP.tables eE below (s₁.setTop (mkF mM 25 #[.val (.long q1), .second, .val (.long q2), .second, .val (.long q3), .second, .val (.long q4), .second, .val (.int p5), .val (.int s1_), .unset, .unset, .unset, .unset, .unset, .unset, .unset, .unset, .unset] [])) tT
      refine XS.iconst X0.here hx rfl (Jvm.hb hby at_25) ?_
      show Steps pP.tables eE below (s₁.setTop (mkF mM 26 #[.val (.long q1), .second, .val (.long q2), .second, .val (.long q3), .second, .val (.long q4), .second, .val (.int p5), .val (.int s1_), .unset, .unset, .unset, .unset, .unset, .unset, .unset, .unset, .unset] [(.int (0 : Int32))])) tT
      exact kK
    · refine ⟨(1 : Int32), fun tT kK => ?_⟩
      refine XS.ifNo X0.here hx rfl (Jvm.hb hby at_18) rfl ((if0 _ _).trans (feq (hm1 : ¬ ((p5 &&& (2 : Int32)) = (0 : Int32)))).1) ?_
      show Steps pP.tables eE below (s₁.setTop (mkF mM 21 #[.val (.long q1), .second, .val (.long q2), .second, .val (.long q3), .second, .val (.long q4), .second, .val (.int p5), .val (.int s1_), .unset, .unset, .unset, .unset, .unset, .unset, .unset, .unset, .unset] [])) tT
      refine XS.iconst X0.here hx rfl (Jvm.hb hby at_21) ?_
      show Steps pP.tables eE below (s₁.setTop (mkF mM 22 #[.val (.long q1), .second, .val (.long q2), .second, .val (.long q3), .second, .val (.long q4), .second, .val (.int p5), .val (.int s1_), .unset, .unset, .unset, .unset, .unset, .unset, .unset, .unset, .unset] [(.int (1 : Int32))])) tT
      refine XS.goto X0.here hx rfl (pc0 := 22) (pc' := 26) rfl (Jvm.hb hby at_22) (by decide) (by decide) ?_
      show Steps pP.tables eE below (s₁.setTop (mkF mM 26 #[.val (.long q1), .second, .val (.long q2), .second, .val (.long q3), .second, .val (.long q4), .second, .val (.int p5), .val (.int s1_), .unset, .unset, .unset, .unset, .unset, .unset, .unset, .unset, .unset] [(.int (1 : Int32))])) tT
      exact kK
  refine own_fin st2_ ?_
  show own_Fin pP eE below _ (s₁.setTop (mkF mM 26 #[.val (.long q1), .second, .val (.long q2), .second, .val (.long q3), .second, .val (.long q4), .second, .val (.int p5), .val (.int s1_), .unset, .unset, .unset, .unset, .unset, .unset, .unset, .unset, .unset] [(.int s2_)]))
  refine own_fin (b := s₁.setTop (mkF mM 36 #[.val (.long q1), .second, .val (.long q2), .second, .val (.long q3), .second, .val (.long q4), .second, .val (.int p5), .val (.int s1_), .val (.int s2_), .val (.int (((p5.toUInt32 >>> ((2 : Int32) &&& 31).toUInt32).toInt32) &&& (3 : Int32))), .unset, .unset, .unset, .unset, .unset, .unset, .unset] [])) (fun tT kK => ?_) ?_
  · show Steps pP.tables eE below (s₁.setTop (mkF mM 26 #[.val (.long q1), .second, .val (.long q2), .second, .val (.long q3), .second, .val (.long q4), .second, .val (.int p5), .val (.int s1_), .unset, .unset, .unset, .unset, .unset, .unset, .unset, .unset, .unset] [(.int s2_)])) tT
    refine XS.istore X0.here hx rfl (Jvm.hb hby at_26) rfl (l' := #[.val (.long q1), .second, .val (.long q2), .second, .val (.long q3), .second, .val (.long q4), .second, .val (.int p5), .val (.int s1_), .val (.int s2_), .unset, .unset, .unset, .unset, .unset, .unset, .unset, .unset]) rfl ?_
    show Steps pP.tables eE below (s₁.setTop (mkF mM 28 #[.val (.long q1), .second, .val (.long q2), .second, .val (.long q3), .second, .val (.long q4), .second, .val (.int p5), .val (.int s1_), .val (.int s2_), .unset, .unset, .unset, .unset, .unset, .unset, .unset, .unset] [])) tT
    refine XS.iload X0.here hx rfl (Jvm.hb hby at_28) rfl ?_
    show Steps pP.tables eE below (s₁.setTop (mkF mM 30 #[.val (.long q1), .second, .val (.long q2), .second, .val (.long q3), .second, .val (.long q4), .second, .val (.int p5), .val (.int s1_), .val (.int s2_), .unset, .unset, .unset, .unset, .unset, .unset, .unset, .unset] [(.int p5)])) tT
    refine XS.iconst X0.here hx rfl (Jvm.hb hby at_30) ?_
    show Steps pP.tables eE below (s₁.setTop (mkF mM 31 #[.val (.long q1), .second, .val (.long q2), .second, .val (.long q3), .second, .val (.long q4), .second, .val (.int p5), .val (.int s1_), .val (.int s2_), .unset, .unset, .unset, .unset, .unset, .unset, .unset, .unset] [(.int (2 : Int32)), (.int p5)])) tT
    refine XS.iushr X0.here hx rfl (Jvm.hb hby at_31) rfl ?_
    show Steps pP.tables eE below (s₁.setTop (mkF mM 32 #[.val (.long q1), .second, .val (.long q2), .second, .val (.long q3), .second, .val (.long q4), .second, .val (.int p5), .val (.int s1_), .val (.int s2_), .unset, .unset, .unset, .unset, .unset, .unset, .unset, .unset] [(.int ((p5.toUInt32 >>> ((2 : Int32) &&& 31).toUInt32).toInt32))])) tT
    refine XS.iconst X0.here hx rfl (Jvm.hb hby at_32) ?_
    show Steps pP.tables eE below (s₁.setTop (mkF mM 33 #[.val (.long q1), .second, .val (.long q2), .second, .val (.long q3), .second, .val (.long q4), .second, .val (.int p5), .val (.int s1_), .val (.int s2_), .unset, .unset, .unset, .unset, .unset, .unset, .unset, .unset] [(.int (3 : Int32)), (.int ((p5.toUInt32 >>> ((2 : Int32) &&& 31).toUInt32).toInt32))])) tT
    refine XS.iand X0.here hx rfl (Jvm.hb hby at_33) rfl ?_
    show Steps pP.tables eE below (s₁.setTop (mkF mM 34 #[.val (.long q1), .second, .val (.long q2), .second, .val (.long q3), .second, .val (.long q4), .second, .val (.int p5), .val (.int s1_), .val (.int s2_), .unset, .unset, .unset, .unset, .unset, .unset, .unset, .unset] [(.int (((p5.toUInt32 >>> ((2 : Int32) &&& 31).toUInt32).toInt32) &&& (3 : Int32)))])) tT
    refine XS.istore X0.here hx rfl (Jvm.hb hby at_34) rfl (l' := #[.val (.long q1), .second, .val (.long q2), .second, .val (.long q3), .second, .val (.long q4), .second, .val (.int p5), .val (.int s1_), .val (.int s2_), .val (.int (((p5.toUInt32 >>> ((2 : Int32) &&& 31).toUInt32).toInt32) &&& (3 : Int32))), .unset, .unset, .unset, .unset, .unset, .unset, .unset]) rfl ?_
    show Steps pP.tables eE below (s₁.setTop (mkF mM 36 #[.val (.long q1), .second, .val (.long q2), .second, .val (.long q3), .second, .val (.long q4), .second, .val (.int p5), .val (.int s1_), .val (.int s2_), .val (.int (((p5.toUInt32 >>> ((2 : Int32) &&& 31).toUInt32).toInt32) &&& (3 : Int32))), .unset, .unset, .unset, .unset, .unset, .unset, .unset] [])) tT
    exact kK
  show own_Fin pP eE below _ (s₁.setTop (mkF mM 36 #[.val (.long q1), .second, .val (.long q2), .second, .val (.long q3), .second, .val (.long q4), .second, .val (.int p5), .val (.int s1_), .val (.int s2_), .val (.int (((p5.toUInt32 >>> ((2 : Int32) &&& 31).toUInt32).toInt32) &&& (3 : Int32))), .unset, .unset, .unset, .unset, .unset, .unset, .unset] []))
  generalize hkd : (((p5.toUInt32 >>> ((2 : Int32) &&& 31).toUInt32).toInt32) &&& (3 : Int32)) = kd
  show own_Fin pP eE below _ (s₁.setTop (mkF mM 36 #[.val (.long q1), .second, .val (.long q2), .second, .val (.long q3), .second, .val (.long q4), .second, .val (.int p5), .val (.int s1_), .val (.int s2_), .val (.int kd), .unset, .unset, .unset, .unset, .unset, .unset, .unset] []))
  refine own_fin (b := s₁.setTop (mkF mM 38 #[.val (.long q1), .second, .val (.long q2), .second, .val (.long q3), .second, .val (.long q4), .second, .val (.int p5), .val (.int s1_), .val (.int s2_), .val (.int kd), .unset, .unset, .unset, .unset, .unset, .unset, .unset] [(.int s1_)])) (fun tT kK => ?_) ?_
  · show Steps pP.tables eE below (s₁.setTop (mkF mM 36 #[.val (.long q1), .second, .val (.long q2), .second, .val (.long q3), .second, .val (.long q4), .second, .val (.int p5), .val (.int s1_), .val (.int s2_), .val (.int kd), .unset, .unset, .unset, .unset, .unset, .unset, .unset] [])) tT
    refine XS.iload X0.here hx rfl (Jvm.hb hby at_36) rfl ?_
    show Steps pP.tables eE below (s₁.setTop (mkF mM 38 #[.val (.long q1), .second, .val (.long q2), .second, .val (.long q3), .second, .val (.long q4), .second, .val (.int p5), .val (.int s1_), .val (.int s2_), .val (.int kd), .unset, .unset, .unset, .unset, .unset, .unset, .unset] [(.int s1_)])) tT
    exact kK
  obtain ⟨c2, st3_⟩ : ∃ c2 : Int64, ∀ tT, Steps pP.tables eE below (s₁.setTop (mkF mM 47 #[.val (.long q1), .second, .val (.long q2), .second, .val (.long q3), .second, .val (.long q4), .second, .val (.int p5), .val (.int s1_), .val (.int s2_), .val (.int kd), .unset, .unset, .unset, .unset, .unset, .unset, .unset] [(.long c2)])) tT → Steps pP.tables eE below (s₁.setTop (mkF mM 38 #[.val (.long q1), .second, .val (.long q2), .second, .val (.long q3), .second, .val (.long q4), .second, .val (.int p5), .val (.int s1_), .val (.int s2_), .val (.int kd), .unset, .unset, .unset, .unset, .unset, .unset, .unset] [(.int s1_)])) tT := by
    by_cases hm1 : s1_ = (0 : Int32)
    · refine ⟨q3, fun tT kK => ?_⟩
      refine XS.ifYes X0.here hx rfl (pc0 := 38) (pc' := 45) rfl (Jvm.hb hby at_38) rfl ((if0 _ _).trans (teq (hm1 : s1_ = (0 : Int32))).1) (by decide) (by decide) ?_
      show Steps pP.tables eE below (s₁.setTop (mkF mM 45 #[.val (.long q1), .second, .val (.long q2), .second, .val (.long q3), .second, .val (.long q4), .second, .val (.int p5), .val (.int s1_), .val (.int s2_), .val (.int kd), .unset, .unset, .unset, .unset, .unset, .unset, .unset] [])) tT
      refine XS.lload X0.here hx rfl (Jvm.hb hby at_45) rfl ?_
      show Steps pP.tables eE below (s₁.setTop (mkF mM 47 #[.val (.long q1), .second, .val (.long q2), .second, .val (.long q3), .second, .val (.long q4), .second, .val (.int p5), .val (.int s1_), .val (.int s2_), .val (.int kd), .unset, .unset, .unset, .unset, .unset, .unset, .unset] [(.long q3)])) tT
      exact kK
    · refine ⟨q1, fun tT kK => ?_⟩
      refine XS.ifNo X0.here hx rfl (Jvm.hb hby at_38) rfl ((if0 _ _).trans (feq (hm1 : ¬ (s1_ = (0 : Int32)))).1) ?_
      show Steps pP.tables eE below (s₁.setTop (mkF mM 41 #[.val (.long q1), .second, .val (.long q2), .second, .val (.long q3), .second, .val (.long q4), .second, .val (.int p5), .val (.int s1_), .val (.int s2_), .val (.int kd), .unset, .unset, .unset, .unset, .unset, .unset, .unset] [])) tT
      refine XS.lloadN X0.here hx rfl (Jvm.hb hby at_41) rfl ?_
      show Steps pP.tables eE below (s₁.setTop (mkF mM 42 #[.val (.long q1), .second, .val (.long q2), .second, .val (.long q3), .second, .val (.long q4), .second, .val (.int p5), .val (.int s1_), .val (.int s2_), .val (.int kd), .unset, .unset, .unset, .unset, .unset, .unset, .unset] [(.long q1)])) tT
      refine XS.goto X0.here hx rfl (pc0 := 42) (pc' := 47) rfl (Jvm.hb hby at_42) (by decide) (by decide) ?_
      show Steps pP.tables eE below (s₁.setTop (mkF mM 47 #[.val (.long q1), .second, .val (.long q2), .second, .val (.long q3), .second, .val (.long q4), .second, .val (.int p5), .val (.int s1_), .val (.int s2_), .val (.int kd), .unset, .unset, .unset, .unset, .unset, .unset, .unset] [(.long q1)])) tT
      exact kK
  refine own_fin st3_ ?_
  show own_Fin pP eE below _ (s₁.setTop (mkF mM 47 #[.val (.long q1), .second, .val (.long q2), .second, .val (.long q3), .second, .val (.long q4), .second, .val (.int p5), .val (.int s1_), .val (.int s2_), .val (.int kd), .unset, .unset, .unset, .unset, .unset, .unset, .unset] [(.long c2)]))
  refine own_fin (b := s₁.setTop (mkF mM 51 #[.val (.long q1), .second, .val (.long q2), .second, .val (.long q3), .second, .val (.long q4), .second, .val (.int p5), .val (.int s1_), .val (.int s2_), .val (.int kd), .val (.long c2), .second, .unset, .unset, .unset, .unset, .unset] [(.int s2_)])) (fun tT kK => ?_) ?_
  · show Steps pP.tables eE below (s₁.setTop (mkF mM 47 #[.val (.long q1), .second, .val (.long q2), .second, .val (.long q3), .second, .val (.long q4), .second, .val (.int p5), .val (.int s1_), .val (.int s2_), .val (.int kd), .unset, .unset, .unset, .unset, .unset, .unset, .unset] [(.long c2)])) tT
    refine XS.lstore X0.here hx rfl (Jvm.hb hby at_47) rfl (l' := #[.val (.long q1), .second, .val (.long q2), .second, .val (.long q3), .second, .val (.long q4), .second, .val (.int p5), .val (.int s1_), .val (.int s2_), .val (.int kd), .val (.long c2), .second, .unset, .unset, .unset, .unset, .unset]) rfl ?_
    show Steps pP.tables eE below (s₁.setTop (mkF mM 49 #[.val (.long q1), .second, .val (.long q2), .second, .val (.long q3), .second, .val (.long q4), .second, .val (.int p5), .val (.int s1_), .val (.int s2_), .val (.int kd), .val (.long c2), .second, .unset, .unset, .unset, .unset, .unset] [])) tT
    refine XS.iload X0.here hx rfl (Jvm.hb hby at_49) rfl ?_
    show Steps pP.tables eE below (s₁.setTop (mkF mM 51 #[.val (.long q1), .second, .val (.long q2), .second, .val (.long q3), .second, .val (.long q4), .second, .val (.int p5), .val (.int s1_), .val (.int s2_), .val (.int kd), .val (.long c2), .second, .unset, .unset, .unset, .unset, .unset] [(.int s2_)])) tT
    exact kK
  obtain ⟨d2, st4_⟩ : ∃ d2 : Int64, ∀ tT, Steps pP.tables eE below (s₁.setTop (mkF mM 60 #[.val (.long q1), .second, .val (.long q2), .second, .val (.long q3), .second, .val (.long q4), .second, .val (.int p5), .val (.int s1_), .val (.int s2_), .val (.int kd), .val (.long c2), .second, .unset, .unset, .unset, .unset, .unset] [(.long d2)])) tT → Steps pP.tables eE below (s₁.setTop (mkF mM 51 #[.val (.long q1), .second, .val (.long q2), .second, .val (.long q3), .second, .val (.long q4), .second, .val (.int p5), .val (.int s1_), .val (.int s2_), .val (.int kd), .val (.long c2), .second, .unset, .unset, .unset, .unset, .unset] [(.int s2_)])) tT := by
    by_cases hm1 : s2_ = (0 : Int32)
    · refine ⟨q4, fun tT kK => ?_⟩
      refine XS.ifYes X0.here hx rfl (pc0 := 51) (pc' := 58) rfl (Jvm.hb hby at_51) rfl ((if0 _ _).trans (teq (hm1 : s2_ = (0 : Int32))).1) (by decide) (by decide) ?_
      show Steps pP.tables eE below (s₁.setTop (mkF mM 58 #[.val (.long q1), .second, .val (.long q2), .second, .val (.long q3), .second, .val (.long q4), .second, .val (.int p5), .val (.int s1_), .val (.int s2_), .val (.int kd), .val (.long c2), .second, .unset, .unset, .unset, .unset, .unset] [])) tT
      refine XS.lload X0.here hx rfl (Jvm.hb hby at_58) rfl ?_
      show Steps pP.tables eE below (s₁.setTop (mkF mM 60 #[.val (.long q1), .second, .val (.long q2), .second, .val (.long q3), .second, .val (.long q4), .second, .val (.int p5), .val (.int s1_), .val (.int s2_), .val (.int kd), .val (.long c2), .second, .unset, .unset, .unset, .unset, .unset] [(.long q4)])) tT
      exact kK
    · refine ⟨q2, fun tT kK => ?_⟩
      refine XS.ifNo X0.here hx rfl (Jvm.hb hby at_51) rfl ((if0 _ _).trans (feq (hm1 : ¬ (s2_ = (0 : Int32)))).1) ?_
      show Steps pP.tables eE below (s₁.setTop (mkF mM 54 #[.val (.long q1), .second, .val (.long q2), .second, .val (.long q3), .second, .val (.long q4), .second, .val (.int p5), .val (.int s1_), .val (.int s2_), .val (.int kd), .val (.long c2), .second, .unset, .unset, .unset, .unset, .unset] [])) tT
      refine XS.lloadN X0.here hx rfl (Jvm.hb hby at_54) rfl ?_
      show Steps pP.tables eE below (s₁.setTop (mkF mM 55 #[.val (.long q1), .second, .val (.long q2), .second, .val (.long q3), .second, .val (.long q4), .second, .val (.int p5), .val (.int s1_), .val (.int s2_), .val (.int kd), .val (.long c2), .second, .unset, .unset, .unset, .unset, .unset] [(.long q2)])) tT
      refine XS.goto X0.here hx rfl (pc0 := 55) (pc' := 60) rfl (Jvm.hb hby at_55) (by decide) (by decide) ?_
      show Steps pP.tables eE below (s₁.setTop (mkF mM 60 #[.val (.long q1), .second, .val (.long q2), .second, .val (.long q3), .second, .val (.long q4), .second, .val (.int p5), .val (.int s1_), .val (.int s2_), .val (.int kd), .val (.long c2), .second, .unset, .unset, .unset, .unset, .unset] [(.long q2)])) tT
      exact kK
  refine own_fin st4_ ?_
  show own_Fin pP eE below _ (s₁.setTop (mkF mM 60 #[.val (.long q1), .second, .val (.long q2), .second, .val (.long q3), .second, .val (.long q4), .second, .val (.int p5), .val (.int s1_), .val (.int s2_), .val (.int kd), .val (.long c2), .second, .unset, .unset, .unset, .unset, .unset] [(.long d2)]))
  refine own_fin (b := s₁.setTop (mkF mM 62 #[.val (.long q1), .second, .val (.long q2), .second, .val (.long q3), .second, .val (.long q4), .second, .val (.int p5), .val (.int s1_), .val (.int s2_), .val (.int kd), .val (.long c2), .second, .val (.long d2), .second, .unset, .unset, .unset] [])) (fun tT kK => ?_) ?_
  · show Steps pP.tables eE below (s₁.setTop (mkF mM 60 #[.val (.long q1), .second, .val (.long q2), .second, .val (.long q3), .second, .val (.long q4), .second, .val (.int p5), .val (.int s1_), .val (.int s2_), .val (.int kd), .val (.long c2), .second, .unset, .unset, .unset, .unset, .unset] [(.long d2)])) tT
    refine XS.lstore X0.here hx rfl (Jvm.hb hby at_60) rfl (l' := #[.val (.long q1), .second, .val (.long q2), .second, .val (.long q3), .second, .val (.long q4), .second, .val (.int p5), .val (.int s1_), .val (.int s2_), .val (.int kd), .val (.long c2), .second, .val (.long d2), .second, .unset, .unset, .unset]) rfl ?_
    show Steps pP.tables eE below (s₁.setTop (mkF mM 62 #[.val (.long q1), .second, .val (.long q2), .second, .val (.long q3), .second, .val (.long q4), .second, .val (.int p5), .val (.int s1_), .val (.int s2_), .val (.int kd), .val (.long c2), .second, .val (.long d2), .second, .unset, .unset, .unset] [])) tT
    exact kK
  obtain ⟨T5_, h5_, X5_, e5_, E5_, A5_, D5_, -, st5_⟩ := newO X0 hx hZ hown (hw _ (List.mem_of_getElem? (i := 0) rfl)) (hw _ (List.mem_of_getElem? (i := 1) rfl)) (hw _ (List.mem_of_getElem? (i := 2) rfl)) e0 (g := (mkF mM 62 #[.val (.long q1), .second, .val (.long q2), .second, .val (.long q3), .second, .val (.long q4), .second, .val (.int p5), .val (.int s1_), .val (.int s2_), .val (.int kd), .val (.long c2), .second, .val (.long d2), .second, .unset, .unset, .unset] [])) rfl (Jvm.hb hby at_62) (by decide) (by decide)
  obtain ⟨b5_, g5_⟩ : ∃ z, z = h0.size := ⟨_, rfl⟩
  rw [← g5_] at A5_ D5_ st5_
  have sz_b5_ : h0.size ≤ b5_ := Nat.le_trans K0.1 (Nat.le_of_eq g5_.symm)
  have ge_b5_ : n0 ≤ b5_ := Nat.le_trans Z0 sz_b5_
  have K5_ := K0.ext E5_
  have F5__first : Fld Z h5_ b5_ "com/example/epoch/epoch/Hole" "first" "J" (.long (0 : Int64)) := D5_ (Or.inr (hw _ (List.mem_of_getElem? (i := 10) rfl))) (ty := .long) (by decide)
  have F5__last : Fld Z h5_ b5_ "com/example/epoch/epoch/Hole" "last" "J" (.long (0 : Int64)) := D5_ (Or.inr (hw _ (List.mem_of_getElem? (i := 12) rfl))) (ty := .long) (by decide)
  refine own_fin st5_ ?_
  show own_Fin pP eE below _ (T5_.setTop (mkF mM 65 #[.val (.long q1), .second, .val (.long q2), .second, .val (.long q3), .second, .val (.long q4), .second, .val (.int p5), .val (.int s1_), .val (.int s2_), .val (.int kd), .val (.long c2), .second, .val (.long d2), .second, .unset, .unset, .unset] [(.ref b5_)]))
  refine own_fin (b := T5_.setTop (mkF mM 68 #[.val (.long q1), .second, .val (.long q2), .second, .val (.long q3), .second, .val (.long q4), .second, .val (.int p5), .val (.int s1_), .val (.int s2_), .val (.int kd), .val (.long c2), .second, .val (.long d2), .second, .unset, .unset, .unset] [(.long q2), (.long q1), (.ref b5_), (.ref b5_)])) (fun tT kK => ?_) ?_
  · show Steps pP.tables eE below (T5_.setTop (mkF mM 65 #[.val (.long q1), .second, .val (.long q2), .second, .val (.long q3), .second, .val (.long q4), .second, .val (.int p5), .val (.int s1_), .val (.int s2_), .val (.int kd), .val (.long c2), .second, .val (.long d2), .second, .unset, .unset, .unset] [(.ref b5_)])) tT
    refine XS.dup X5_.here hx rfl (Jvm.hb hby at_65) rfl rfl ?_
    show Steps pP.tables eE below (T5_.setTop (mkF mM 66 #[.val (.long q1), .second, .val (.long q2), .second, .val (.long q3), .second, .val (.long q4), .second, .val (.int p5), .val (.int s1_), .val (.int s2_), .val (.int kd), .val (.long c2), .second, .val (.long d2), .second, .unset, .unset, .unset] [(.ref b5_), (.ref b5_)])) tT
    refine XS.lloadN X5_.here hx rfl (Jvm.hb hby at_66) rfl ?_
    show Steps pP.tables eE below (T5_.setTop (mkF mM 67 #[.val (.long q1), .second, .val (.long q2), .second, .val (.long q3), .second, .val (.long q4), .second, .val (.int p5), .val (.int s1_), .val (.int s2_), .val (.int kd), .val (.long c2), .second, .val (.long d2), .second, .unset, .unset, .unset] [(.long q1), (.ref b5_), (.ref b5_)])) tT
    refine XS.lloadN X5_.here hx rfl (Jvm.hb hby at_67) rfl ?_
    show Steps pP.tables eE below (T5_.setTop (mkF mM 68 #[.val (.long q1), .second, .val (.long q2), .second, .val (.long q3), .second, .val (.long q4), .second, .val (.int p5), .val (.int s1_), .val (.int s2_), .val (.int kd), .val (.long c2), .second, .val (.long d2), .second, .unset, .unset, .unset] [(.long q2), (.long q1), (.ref b5_), (.ref b5_)])) tT
    exact kK
  obtain ⟨_, _, ⟨T6_, L6_, k6_, n6_⟩, -, X6_, ⟨Lc6_, hQ6_, l6_, y6_, z6_⟩, st6_⟩ := X5_.specialBack hx (y := (⟨"com/example/epoch/epoch/Hole", "<init>", "(JJ)V"⟩ : MethodName)) rfl hown (mvT hZ (hw _ (List.mem_of_getElem? (i := 3) rfl))) (mvT hZ (hw _ (List.mem_of_getElem? (i := 4) rfl))) (mvT hZ (hw _ (List.mem_of_getElem? (i := 5) rfl))) (by decide) (backOf (W := 1) (rm_hole lL Z a0 hw [] b5_ q1 q2 h5_ n0 (Nat.le_trans Z0 K5_.1) A5_ F5__first F5__last ge_b5_) hZ (hw _ (List.mem_of_getElem? (i := 5) rfl)) (hw _ (List.mem_of_getElem? (i := 2) rfl)) (by decide) (by decide)) (g := (mkF mM 68 #[.val (.long q1), .second, .val (.long q2), .second, .val (.long q3), .second, .val (.long q4), .second, .val (.int p5), .val (.int s1_), .val (.int s2_), .val (.int kd), .val (.long c2), .second, .val (.long d2), .second, .unset, .unset, .unset] [(.long q2), (.long q1), (.ref b5_), (.ref b5_)])) rfl (by rw [hml]; rfl) (Steps.refl _) (a := b5_) (argsL := [(.long q1), (.long q2)]) (rest := [(.ref b5_)]) (lenOf own_pd0 rfl) rfl (by show 2 * 0 + _ ≤ _; exact Nat.le_of_eq rfl) (Jvm.hb hby at_68) (fun _ _ => ⟨rfl, e5_, (by decide : 1 + 0 ≤ _), (by decide : 2 + 0 ≤ _)⟩)
  dsimp only [Pt.U, Pt.locs, Pt.cells, Pt.slots] at X6_ l6_ y6_ z6_ st6_ hQ6_
  subst l6_ y6_ z6_
  obtain ⟨rfl, N6_q, p6__0, p6__1, p6__2, p6__3⟩ := hQ6_
  have N6_ := Fr.app N0 N6_q
  have fc7_ := A5_.keep p6__0
  have K6_ := K5_.trans p6__0 (allS (Or.inr sz_b5_) all0)
  refine own_fin (fun tT kK => st6_.trans kK) ?_
  show own_Fin pP eE below _ (T6_.setTop (mkF mM 71 #[.val (.long q1), .second, .val (.long q2), .second, .val (.long q3), .second, .val (.long q4), .second, .val (.int p5), .val (.int s1_), .val (.int s2_), .val (.int kd), .val (.long c2), .second, .val (.long d2), .second, .unset, .unset, .unset] [(.ref b5_)]))
  refine own_fin (b := T6_.setTop (mkF mM 75 #[.val (.long q1), .second, .val (.long q2), .second, .val (.long q3), .second, .val (.long q4), .second, .val (.int p5), .val (.int s1_), .val (.int s2_), .val (.int kd), .val (.long c2), .second, .val (.long d2), .second, .val (.ref b5_), .unset, .unset] [(.int kd)])) (fun tT kK => ?_) ?_
  · show Steps pP.tables eE below (T6_.setTop (mkF mM 71 #[.val (.long q1), .second, .val (.long q2), .second, .val (.long q3), .second, .val (.long q4), .second, .val (.int p5), .val (.int s1_), .val (.int s2_), .val (.int kd), .val (.long c2), .second, .val (.long d2), .second, .unset, .unset, .unset] [(.ref b5_)])) tT
    refine XS.astore X6_.here hx rfl (Jvm.hb hby at_71) rfl rfl (l' := #[.val (.long q1), .second, .val (.long q2), .second, .val (.long q3), .second, .val (.long q4), .second, .val (.int p5), .val (.int s1_), .val (.int s2_), .val (.int kd), .val (.long c2), .second, .val (.long d2), .second, .val (.ref b5_), .unset, .unset]) rfl ?_
    show Steps pP.tables eE below (T6_.setTop (mkF mM 73 #[.val (.long q1), .second, .val (.long q2), .second, .val (.long q3), .second, .val (.long q4), .second, .val (.int p5), .val (.int s1_), .val (.int s2_), .val (.int kd), .val (.long c2), .second, .val (.long d2), .second, .val (.ref b5_), .unset, .unset] [])) tT
    refine XS.iload X6_.here hx rfl (Jvm.hb hby at_73) rfl ?_
    show Steps pP.tables eE below (T6_.setTop (mkF mM 75 #[.val (.long q1), .second, .val (.long q2), .second, .val (.long q3), .second, .val (.long q4), .second, .val (.int p5), .val (.int s1_), .val (.int s2_), .val (.int kd), .val (.long c2), .second, .val (.long d2), .second, .val (.ref b5_), .unset, .unset] [(.int kd)])) tT
    exact kK
  by_cases hc75_8_ : kd = (0 : Int32)
  · refine own_fin (b := T6_.setTop (mkF mM 78 #[.val (.long q1), .second, .val (.long q2), .second, .val (.long q3), .second, .val (.long q4), .second, .val (.int p5), .val (.int s1_), .val (.int s2_), .val (.int kd), .val (.long c2), .second, .val (.long d2), .second, .val (.ref b5_), .unset, .unset] [])) (fun tT kK => ?_) ?_
    · show Steps pP.tables eE below (T6_.setTop (mkF mM 75 #[.val (.long q1), .second, .val (.long q2), .second, .val (.long q3), .second, .val (.long q4), .second, .val (.int p5), .val (.int s1_), .val (.int s2_), .val (.int kd), .val (.long c2), .second, .val (.long d2), .second, .val (.ref b5_), .unset, .unset] [(.int kd)])) tT
      refine XS.ifNo X6_.here hx rfl (Jvm.hb hby at_75) rfl ((if0 _ _).trans (teq (hc75_8_ : kd = (0 : Int32))).2) ?_
      show Steps pP.tables eE below (T6_.setTop (mkF mM 78 #[.val (.long q1), .second, .val (.long q2), .second, .val (.long q3), .second, .val (.long q4), .second, .val (.int p5), .val (.int s1_), .val (.int s2_), .val (.int kd), .val (.long c2), .second, .val (.long d2), .second, .val (.ref b5_), .unset, .unset] [])) tT
      exact kK
    obtain ⟨T9_, h9_, X9_, e9_, E9_, A9_, D9_, -, st9_⟩ := newO X6_ hx hZ hown (hw _ (List.mem_of_getElem? (i := 0) rfl)) (hw _ (List.mem_of_getElem? (i := 1) rfl)) (hw _ (List.mem_of_getElem? (i := 2) rfl)) rfl (g := (mkF mM 78 #[.val (.long q1), .second, .val (.long q2), .second, .val (.long q3), .second, .val (.long q4), .second, .val (.int p5), .val (.int s1_), .val (.int s2_), .val (.int kd), .val (.long c2), .second, .val (.long d2), .second, .val (.ref b5_), .unset, .unset] [])) rfl (Jvm.hb hby at_78) (by decide) (by decide)
    obtain ⟨b9_, g9_⟩ : ∃ z, z = T6_.heap.size := ⟨_, rfl⟩
    rw [← g9_] at A9_ D9_ st9_
    have sz_b9_ : h0.size ≤ b9_ := Nat.le_trans K6_.1 (Nat.le_of_eq g9_.symm)
    have ge_b9_ : n0 ≤ b9_ := Nat.le_trans Z0 sz_b9_
    have ne10_ : b5_ ≠ b9_ := Nat.ne_of_lt (Nat.lt_of_lt_of_le p6__1.lt (Nat.le_of_eq g9_.symm))
    have fc11_ := p6__1.ext E9_
    have fc12_ := p6__2.ext E9_
    have fc13_ := p6__3.ext E9_
    have K9_ := K6_.ext E9_
    have F9__first : Fld Z h9_ b9_ "com/example/epoch/epoch/Hole" "first" "J" (.long (0 : Int64)) := D9_ (Or.inr (hw _ (List.mem_of_getElem? (i := 10) rfl))) (ty := .long) (by decide)
    have F9__last : Fld Z h9_ b9_ "com/example/epoch/epoch/Hole" "last" "J" (.long (0 : Int64)) := D9_ (Or.inr (hw _ (List.mem_of_getElem? (i := 12) rfl))) (ty := .long) (by decide)
    refine own_fin st9_ ?_
    show own_Fin pP eE below _ (T9_.setTop (mkF mM 81 #[.val (.long q1), .second, .val (.long q2), .second, .val (.long q3), .second, .val (.long q4), .second, .val (.int p5), .val (.int s1_), .val (.int s2_), .val (.int kd), .val (.long c2), .second, .val (.long d2), .second, .val (.ref b5_), .unset, .unset] [(.ref b9_)]))
    refine own_fin (b := T9_.setTop (mkF mM 86 #[.val (.long q1), .second, .val (.long q2), .second, .val (.long q3), .second, .val (.long q4), .second, .val (.int p5), .val (.int s1_), .val (.int s2_), .val (.int kd), .val (.long c2), .second, .val (.long d2), .second, .val (.ref b5_), .unset, .unset] [(.long d2), (.long c2), (.ref b9_), (.ref b9_)])) (fun tT kK => ?_) ?_
    · show Steps pP.tables eE below (T9_.setTop (mkF mM 81 #[.val (.long q1), .second, .val (.long q2), .second, .val (.long q3), .second, .val (.long q4), .second, .val (.int p5), .val (.int s1_), .val (.int s2_), .val (.int kd), .val (.long c2), .second, .val (.long d2), .second, .val (.ref b5_), .unset, .unset] [(.ref b9_)])) tT
      refine XS.dup X9_.here hx rfl (Jvm.hb hby at_81) rfl rfl ?_
      show Steps pP.tables eE below (T9_.setTop (mkF mM 82 #[.val (.long q1), .second, .val (.long q2), .second, .val (.long q3), .second, .val (.long q4), .second, .val (.int p5), .val (.int s1_), .val (.int s2_), .val (.int kd), .val (.long c2), .second, .val (.long d2), .second, .val (.ref b5_), .unset, .unset] [(.ref b9_), (.ref b9_)])) tT
      refine XS.lload X9_.here hx rfl (Jvm.hb hby at_82) rfl ?_
      show Steps pP.tables eE below (T9_.setTop (mkF mM 84 #[.val (.long q1), .second, .val (.long q2), .second, .val (.long q3), .second, .val (.long q4), .second, .val (.int p5), .val (.int s1_), .val (.int s2_), .val (.int kd), .val (.long c2), .second, .val (.long d2), .second, .val (.ref b5_), .unset, .unset] [(.long c2), (.ref b9_), (.ref b9_)])) tT
      refine XS.lload X9_.here hx rfl (Jvm.hb hby at_84) rfl ?_
      show Steps pP.tables eE below (T9_.setTop (mkF mM 86 #[.val (.long q1), .second, .val (.long q2), .second, .val (.long q3), .second, .val (.long q4), .second, .val (.int p5), .val (.int s1_), .val (.int s2_), .val (.int kd), .val (.long c2), .second, .val (.long d2), .second, .val (.ref b5_), .unset, .unset] [(.long d2), (.long c2), (.ref b9_), (.ref b9_)])) tT
      exact kK
    obtain ⟨_, _, ⟨T14_, L14_, k14_, n14_⟩, -, X14_, ⟨Lc14_, hQ14_, l14_, y14_, z14_⟩, st14_⟩ := X9_.specialBack hx (y := (⟨"com/example/epoch/epoch/Hole", "<init>", "(JJ)V"⟩ : MethodName)) rfl hown (mvT hZ (hw _ (List.mem_of_getElem? (i := 3) rfl))) (mvT hZ (hw _ (List.mem_of_getElem? (i := 4) rfl))) (mvT hZ (hw _ (List.mem_of_getElem? (i := 5) rfl))) (by decide) (backOf (W := 1) (rm_hole lL Z a0 hw [] b9_ c2 d2 h9_ n0 (Nat.le_trans Z0 K9_.1) A9_ F9__first F9__last ge_b9_) hZ (hw _ (List.mem_of_getElem? (i := 5) rfl)) (hw _ (List.mem_of_getElem? (i := 2) rfl)) (by decide) (by decide)) (g := (mkF mM 86 #[.val (.long q1), .second, .val (.long q2), .second, .val (.long q3), .second, .val (.long q4), .second, .val (.int p5), .val (.int s1_), .val (.int s2_), .val (.int kd), .val (.long c2), .second, .val (.long d2), .second, .val (.ref b5_), .unset, .unset] [(.long d2), (.long c2), (.ref b9_), (.ref b9_)])) rfl (by rw [hml]; rfl) (Steps.refl _) (a := b9_) (argsL := [(.long c2), (.long d2)]) (rest := [(.ref b9_)]) (lenOf own_pd0 rfl) rfl (by show 2 * 0 + _ ≤ _; exact Nat.le_of_eq rfl) (Jvm.hb hby at_86) (fun _ _ => ⟨rfl, e9_, (by decide : 2 + 0 ≤ _), (by decide : 4 + 0 ≤ _)⟩)
    dsimp only [Pt.U, Pt.locs, Pt.cells, Pt.slots] at X14_ l14_ y14_ z14_ st14_ hQ14_
    subst l14_ y14_ z14_
    obtain ⟨rfl, N14_q, p14__0, p14__1, p14__2, p14__3⟩ := hQ14_
    have N14_ := Fr.app N6_ N14_q
    have fc15_ := fc11_.keep p14__0
    have fc16_ := fc12_.keep p14__0 (ninS ne10_ nin0)
    have fc17_ := fc13_.keep p14__0 (ninS ne10_ nin0)
    have fc18_ := A9_.keep p14__0
    have K14_ := K9_.trans p14__0 (allS (Or.inr sz_b9_) all0)
    refine own_fin (fun tT kK => st14_.trans kK) ?_
    show own_Fin pP eE below _ (T14_.setTop (mkF mM 89 #[.val (.long q1), .second, .val (.long q2), .second, .val (.long q3), .second, .val (.long q4), .second, .val (.int p5), .val (.int s1_), .val (.int s2_), .val (.int kd), .val (.long c2), .second, .val (.long d2), .second, .val (.ref b5_), .unset, .unset] [(.ref b9_)]))
    refine own_fin (b := T14_.setTop (mkF mM 95 #[.val (.long q1), .second, .val (.long q2), .second, .val (.long q3), .second, .val (.long q4), .second, .val (.int p5), .val (.int s1_), .val (.int s2_), .val (.int kd), .val (.long c2), .second, .val (.long d2), .second, .val (.ref b5_), .val (.ref b9_), .unset] [(.int (lcmpW c2 q1))])) (fun tT kK => ?_) ?_
    · show Steps pP.tables eE below (T14_.setTop (mkF mM 89 #[.val (.long q1), .second, .val (.long q2), .second, .val (.long q3), .second, .val (.long q4), .second, .val (.int p5), .val (.int s1_), .val (.int s2_), .val (.int kd), .val (.long c2), .second, .val (.long d2), .second, .val (.ref b5_), .unset, .unset] [(.ref b9_)])) tT
      refine XS.astore X14_.here hx rfl (Jvm.hb hby at_89) rfl rfl (l' := #[.val (.long q1), .second, .val (.long q2), .second, .val (.long q3), .second, .val (.long q4), .second, .val (.int p5), .val (.int s1_), .val (.int s2_), .val (.int kd), .val (.long c2), .second, .val (.long d2), .second, .val (.ref b5_), .val (.ref b9_), .unset]) rfl ?_
      show Steps pP.tables eE below (T14_.setTop (mkF mM 91 #[.val (.long q1), .second, .val (.long q2), .second, .val (.long q3), .second, .val (.long q4), .second, .val (.int p5), .val (.int s1_), .val (.int s2_), .val (.int kd), .val (.long c2), .second, .val (.long d2), .second, .val (.ref b5_), .val (.ref b9_), .unset] [])) tT
      refine XS.lload X14_.here hx rfl (Jvm.hb hby at_91) rfl ?_
      show Steps pP.tables eE below (T14_.setTop (mkF mM 93 #[.val (.long q1), .second, .val (.long q2), .second, .val (.long q3), .second, .val (.long q4), .second, .val (.int p5), .val (.int s1_), .val (.int s2_), .val (.int kd), .val (.long c2), .second, .val (.long d2), .second, .val (.ref b5_), .val (.ref b9_), .unset] [(.long c2)])) tT
      refine XS.lloadN X14_.here hx rfl (Jvm.hb hby at_93) rfl ?_
      show Steps pP.tables eE below (T14_.setTop (mkF mM 94 #[.val (.long q1), .second, .val (.long q2), .second, .val (.long q3), .second, .val (.long q4), .second, .val (.int p5), .val (.int s1_), .val (.int s2_), .val (.int kd), .val (.long c2), .second, .val (.long d2), .second, .val (.ref b5_), .val (.ref b9_), .unset] [(.long q1), (.long c2)])) tT
      refine XS.lcmp X14_.here hx rfl (Jvm.hb hby at_94) rfl ?_
      show Steps pP.tables eE below (T14_.setTop (mkF mM 95 #[.val (.long q1), .second, .val (.long q2), .second, .val (.long q3), .second, .val (.long q4), .second, .val (.int p5), .val (.int s1_), .val (.int s2_), .val (.int kd), .val (.long c2), .second, .val (.long d2), .second, .val (.ref b5_), .val (.ref b9_), .unset] [(.int (lcmpW c2 q1))])) tT
      exact kK
    obtain ⟨ex, hex, st19_⟩ : ∃ ex : Int32, (ex = (if c2 = q1 then (if d2 = q2 then (1 : Int32) else (0 : Int32)) else (0 : Int32))) ∧ ∀ tT, Steps pP.tables eE below (T14_.setTop (mkF mM 110 #[.val (.long q1), .second, .val (.long q2), .second, .val (.long q3), .second, .val (.long q4), .second, .val (.int p5), .val (.int s1_), .val (.int s2_), .val (.int kd), .val (.long c2), .second, .val (.long d2), .second, .val (.ref b5_), .val (.ref b9_), .unset] [(.int ex)])) tT → Steps pP.tables eE below (T14_.setTop (mkF mM 95 #[.val (.long q1), .second, .val (.long q2), .second, .val (.long q3), .second, .val (.long q4), .second, .val (.int p5), .val (.int s1_), .val (.int s2_), .val (.int kd), .val (.long c2), .second, .val (.long d2), .second, .val (.ref b5_), .val (.ref b9_), .unset] [(.int (lcmpW c2 q1))])) tT := by
      by_cases hm1 : c2 = q1
      · by_cases hm2 : d2 = q2
        · refine ⟨(1 : Int32), by rw [if_pos hm1, if_pos hm2], fun tT kK => ?_⟩
          refine XS.ifNo X14_.here hx rfl (Jvm.hb hby at_95) rfl ((if0 _ _).trans (teq ((lw_eq c2 q1).mpr (hm1 : c2 = q1))).2) ?_
          show Steps pP.tables eE below (T14_.setTop (mkF mM 98 #[.val (.long q1), .second, .val (.long q2), .second, .val (.long q3), .second, .val (.long q4), .second, .val (.int p5), .val (.int s1_), .val (.int s2_), .val (.int kd), .val (.long c2), .second, .val (.long d2), .second, .val (.ref b5_), .val (.ref b9_), .unset] [])) tT
          refine XS.lload X14_.here hx rfl (Jvm.hb hby at_98) rfl ?_
          show Steps pP.tables eE below (T14_.setTop (mkF mM 100 #[.val (.long q1), .second, .val (.long q2), .second, .val (.long q3), .second, .val (.long q4), .second, .val (.int p5), .val (.int s1_), .val (.int s2_), .val (.int kd), .val (.long c2), .second, .val (.long d2), .second, .val (.ref b5_), .val (.ref b9_), .unset] [(.long d2)])) tT
          refine XS.lloadN X14_.here hx rfl (Jvm.hb hby at_100) rfl ?_
          show Steps pP.tables eE below (T14_.setTop (mkF mM 101 #[.val (.long q1), .second, .val (.long q2), .second, .val (.long q3), .second, .val (.long q4), .second, .val (.int p5), .val (.int s1_), .val (.int s2_), .val (.int kd), .val (.long c2), .second, .val (.long d2), .second, .val (.ref b5_), .val (.ref b9_), .unset] [(.long q2), (.long d2)])) tT
          refine XS.lcmp X14_.here hx rfl (Jvm.hb hby at_101) rfl ?_
          show Steps pP.tables eE below (T14_.setTop (mkF mM 102 #[.val (.long q1), .second, .val (.long q2), .second, .val (.long q3), .second, .val (.long q4), .second, .val (.int p5), .val (.int s1_), .val (.int s2_), .val (.int kd), .val (.long c2), .second, .val (.long d2), .second, .val (.ref b5_), .val (.ref b9_), .unset] [(.int (lcmpW d2 q2))])) tT
          refine XS.ifNo X14_.here hx rfl (Jvm.hb hby at_102) rfl ((if0 _ _).trans (teq ((lw_eq d2 q2).mpr (hm2 : d2 = q2))).2) ?_
          show Steps pP.tables eE below (T14_.setTop (mkF mM 105 #[.val (.long q1), .second, .val (.long q2), .second, .val (.long q3), .second, .val (.long q4), .second, .val (.int p5), .val (.int s1_), .val (.int s2_), .val (.int kd), .val (.long c2), .second, .val (.long d2), .second, .val (.ref b5_), .val (.ref b9_), .unset] [])) tT
          refine XS.iconst X14_.here hx rfl (Jvm.hb hby at_105) ?_
          show Steps pP.tables eE below (T14_.setTop (mkF mM 106 #[.val (.long q1), .second, .val (.long q2), .second, .val (.long q3), .second, .val (.long q4), .second, .val (.int p5), .val (.int s1_), .val (.int s2_), .val (.int kd), .val (.long c2), .second, .val (.long d2), .second, .val (.ref b5_), .val (.ref b9_), .unset] [(.int (1 : Int32))])) tT
          refine XS.goto X14_.here hx rfl (pc0 := 106) (pc' := 110) rfl (Jvm.hb hby at_106) (by decide) (by decide) ?_
          show Steps pP.tables eE below (T14_.setTop (mkF mM 110 #[.val (.long q1), .second, .val (.long q2), .second, .val (.long q3), .second, .val (.long q4), .second, .val (.int p5), .val (.int s1_), .val (.int s2_), .val (.int kd), .val (.long c2), .second, .val (.long d2), .second, .val (.ref b5_), .val (.ref b9_), .unset] [(.int (1 : Int32))])) tT
          exact kK
        · refine ⟨(0 : Int32), by rw [if_pos hm1, if_neg hm2], fun tT kK => ?_⟩
          refine XS.ifNo X14_.here hx rfl (Jvm.hb hby at_95) rfl ((if0 _ _).trans (teq ((lw_eq c2 q1).mpr (hm1 : c2 = q1))).2) ?_
          show Steps pP.tables eE below (T14_.setTop (mkF mM 98 #[.val (.long q1), .second, .val (.long q2), .second, .val (.long q3), .second, .val (.long q4), .second, .val (.int p5), .val (.int s1_), .val (.int s2_), .val (.int kd), .val (.long c2), .second, .val (.long d2), .second, .val (.ref b5_), .val (.ref b9_), .unset] [])) tT
          refine XS.lload X14_.here hx rfl (Jvm.hb hby at_98) rfl ?_
          show Steps pP.tables eE below (T14_.setTop (mkF mM 100 #[.val (.long q1), .second, .val (.long q2), .second, .val (.long q3), .second, .val (.long q4), .second, .val (.int p5), .val (.int s1_), .val (.int s2_), .val (.int kd), .val (.long c2), .second, .val (.long d2), .second, .val (.ref b5_), .val (.ref b9_), .unset] [(.long d2)])) tT
          refine XS.lloadN X14_.here hx rfl (Jvm.hb hby at_100) rfl ?_
          show Steps pP.tables eE below (T14_.setTop (mkF mM 101 #[.val (.long q1), .second, .val (.long q2), .second, .val (.long q3), .second, .val (.long q4), .second, .val (.int p5), .val (.int s1_), .val (.int s2_), .val (.int kd), .val (.long c2), .second, .val (.long d2), .second, .val (.ref b5_), .val (.ref b9_), .unset] [(.long q2), (.long d2)])) tT
          refine XS.lcmp X14_.here hx rfl (Jvm.hb hby at_101) rfl ?_
          show Steps pP.tables eE below (T14_.setTop (mkF mM 102 #[.val (.long q1), .second, .val (.long q2), .second, .val (.long q3), .second, .val (.long q4), .second, .val (.int p5), .val (.int s1_), .val (.int s2_), .val (.int kd), .val (.long c2), .second, .val (.long d2), .second, .val (.ref b5_), .val (.ref b9_), .unset] [(.int (lcmpW d2 q2))])) tT
          refine XS.ifYes X14_.here hx rfl (pc0 := 102) (pc' := 109) rfl (Jvm.hb hby at_102) rfl ((if0 _ _).trans (feq (mt (lw_eq d2 q2).mp (hm2 : ¬ (d2 = q2)))).2) (by decide) (by decide) ?_
          show Steps pP.tables eE below (T14_.setTop (mkF mM 109 #[.val (.long q1), .second, .val (.long q2), .second, .val (.long q3), .second, .val (.long q4), .second, .val (.int p5), .val (.int s1_), .val (.int s2_), .val (.int kd), .val (.long c2), .second, .val (.long d2), .second, .val (.ref b5_), .val (.ref b9_), .unset] [])) tT
          refine XS.iconst X14_.here hx rfl (Jvm.hb hby at_109) ?_
          show Steps pP.tables eE below (T14_.setTop (mkF mM 110 #[.val (.long q1), .second, .val (.long q2), .second, .val (.long q3), .second, .val (.long q4), .second, .val (.int p5), .val (.int s1_), .val (.int s2_), .val (.int kd), .val (.long c2), .second, .val (.long d2), .second, .val (.ref b5_), .val (.ref b9_), .unset] [(.int (0 : Int32))])) tT
          exact kK
      · refine ⟨(0 : Int32), by rw [if_neg hm1], fun tT kK => ?_⟩
        refine XS.ifYes X14_.here hx rfl (pc0 := 95) (pc' := 109) rfl (Jvm.hb hby at_95) rfl ((if0 _ _).trans (feq (mt (lw_eq c2 q1).mp (hm1 : ¬ (c2 = q1)))).2) (by decide) (by decide) ?_
        show Steps pP.tables eE below (T14_.setTop (mkF mM 109 #[.val (.long q1), .second, .val (.long q2), .second, .val (.long q3), .second, .val (.long q4), .second, .val (.int p5), .val (.int s1_), .val (.int s2_), .val (.int kd), .val (.long c2), .second, .val (.long d2), .second, .val (.ref b5_), .val (.ref b9_), .unset] [])) tT
        refine XS.iconst X14_.here hx rfl (Jvm.hb hby at_109) ?_
        show Steps pP.tables eE below (T14_.setTop (mkF mM 110 #[.val (.long q1), .second, .val (.long q2), .second, .val (.long q3), .second, .val (.long q4), .second, .val (.int p5), .val (.int s1_), .val (.int s2_), .val (.int kd), .val (.long c2), .second, .val (.long d2), .second, .val (.ref b5_), .val (.ref b9_), .unset] [(.int (0 : Int32))])) tT
        exact kK
    refine own_fin st19_ ?_
    show own_Fin pP eE below _ (T14_.setTop (mkF mM 110 #[.val (.long q1), .second, .val (.long q2), .second, .val (.long q3), .second, .val (.long q4), .second, .val (.int p5), .val (.int s1_), .val (.int s2_), .val (.int kd), .val (.long c2), .second, .val (.long d2), .second, .val (.ref b5_), .val (.ref b9_), .unset] [(.int ex)]))
    refine own_fin (b := T14_.setTop (mkF mM 169 #[.val (.long q1), .second, .val (.long q2), .second, .val (.long q3), .second, .val (.long q4), .second, .val (.int p5), .val (.int s1_), .val (.int s2_), .val (.int kd), .val (.long c2), .second, .val (.long d2), .second, .val (.ref b5_), .val (.ref b9_), .val (.int ex)] [(.ref b9_), (.ref b5_)])) (fun tT kK => ?_) ?_
    · show Steps pP.tables eE below (T14_.setTop (mkF mM 110 #[.val (.long q1), .second, .val (.long q2), .second, .val (.long q3), .second, .val (.long q4), .second, .val (.int p5), .val (.int s1_), .val (.int s2_), .val (.int kd), .val (.long c2), .second, .val (.long d2), .second, .val (.ref b5_), .val (.ref b9_), .unset] [(.int ex)])) tT
      refine XS.istore X14_.here hx rfl (Jvm.hb hby at_110) rfl (l' := #[.val (.long q1), .second, .val (.long q2), .second, .val (.long q3), .second, .val (.long q4), .second, .val (.int p5), .val (.int s1_), .val (.int s2_), .val (.int kd), .val (.long c2), .second, .val (.long d2), .second, .val (.ref b5_), .val (.ref b9_), .val (.int ex)]) rfl ?_
      show Steps pP.tables eE below (T14_.setTop (mkF mM 112 #[.val (.long q1), .second, .val (.long q2), .second, .val (.long q3), .second, .val (.long q4), .second, .val (.int p5), .val (.int s1_), .val (.int s2_), .val (.int kd), .val (.long c2), .second, .val (.long d2), .second, .val (.ref b5_), .val (.ref b9_), .val (.int ex)] [])) tT
      refine XS.goto X14_.here hx rfl (pc0 := 112) (pc' := 165) rfl (Jvm.hb hby at_112) (by decide) (by decide) ?_
      show Steps pP.tables eE below (T14_.setTop (mkF mM 165 #[.val (.long q1), .second, .val (.long q2), .second, .val (.long q3), .second, .val (.long q4), .second, .val (.int p5), .val (.int s1_), .val (.int s2_), .val (.int kd), .val (.long c2), .second, .val (.long d2), .second, .val (.ref b5_), .val (.ref b9_), .val (.int ex)] [])) tT
      refine XS.aload X14_.here hx rfl (Jvm.hb hby at_165) rfl rfl ?_
      show Steps pP.tables eE below (T14_.setTop (mkF mM 167 #[.val (.long q1), .second, .val (.long q2), .second, .val (.long q3), .second, .val (.long q4), .second, .val (.int p5), .val (.int s1_), .val (.int s2_), .val (.int kd), .val (.long c2), .second, .val (.long d2), .second, .val (.ref b5_), .val (.ref b9_), .val (.int ex)] [(.ref b5_)])) tT
      refine XS.aload X14_.here hx rfl (Jvm.hb hby at_167) rfl rfl ?_
      show Steps pP.tables eE below (T14_.setTop (mkF mM 169 #[.val (.long q1), .second, .val (.long q2), .second, .val (.long q3), .second, .val (.long q4), .second, .val (.int p5), .val (.int s1_), .val (.int s2_), .val (.int kd), .val (.long c2), .second, .val (.long d2), .second, .val (.ref b5_), .val (.ref b9_), .val (.int ex)] [(.ref b9_), (.ref b5_)])) tT
      exact kK
    obtain ⟨cq20_, kq20_, q20_a, q20_b, q20_c⟩ := isOf hZ rfl fc15_
    obtain ⟨_, _, ⟨T20_, L20_, k20_, n20_⟩, -, X20_, ⟨Lc20_, hQ20_, l20_, y20_, z20_⟩, st20_⟩ := X14_.virtualBack hx (y := (⟨"com/example/epoch/epoch/Hole", "equals", "(Ljava/lang/Object;)Z"⟩ : MethodName)) (z := (⟨"com/example/epoch/epoch/Hole", "equals", "(Ljava/lang/Object;)Z"⟩ : MethodName)) hown (mvT hZ (hw _ (List.mem_of_getElem? (i := 13) rfl))) (mvT hZ (hw _ (List.mem_of_getElem? (i := 14) rfl))) (notFace_of_selects (args := #[]) (mvT hZ (hw _ (List.mem_of_getElem? (i := 16) rfl)))) (mvT hZ (hw _ (List.mem_of_getElem? (i := 16) rfl))) (mvT hZ (hw _ (List.mem_of_getElem? (i := 15) rfl))) (by decide) (backOf (W := 0) (rm_eq lL Z a0 hw [] b5_ b9_ q1 q2 c2 d2 T14_.heap n0 (Nat.le_trans Z0 K14_.1) p14__1 fc16_ fc17_ p14__2 p14__3) hZ (hw _ (List.mem_of_getElem? (i := 17) rfl)) (hw _ (List.mem_of_getElem? (i := 2) rfl)) (by decide) (by decide)) q20_a q20_c (g := (mkF mM 169 #[.val (.long q1), .second, .val (.long q2), .second, .val (.long q3), .second, .val (.long q4), .second, .val (.int p5), .val (.int s1_), .val (.int s2_), .val (.int kd), .val (.long c2), .second, .val (.long d2), .second, .val (.ref b5_), .val (.ref b9_), .val (.int ex)] [(.ref b9_), (.ref b5_)])) rfl (by rw [hml]; rfl) (Steps.refl _) (argsL := [(.ref b9_)]) (rest := []) (lenOf own_pd1 rfl) rfl (by show 2 * 0 + _ ≤ _; exact Nat.le_of_eq rfl) (Jvm.hb hby at_169) (fun _ _ => ⟨rfl, rfl, (by decide : 2 + 0 ≤ _), (by decide : 4 + 0 ≤ _)⟩)
    dsimp only [Pt.U, Pt.locs, Pt.cells, Pt.slots] at X20_ l20_ y20_ z20_ st20_ hQ20_
    subst l20_ y20_ z20_
    obtain ⟨rfl, N20_q, p20__0⟩ := hQ20_
    have N20_ := Fr.app N14_ N20_q
    refine own_fin (fun tT kK => st20_.trans kK) ?_
    show own_Fin pP eE below _ (T20_.setTop (mkF mM 172 #[.val (.long q1), .second, .val (.long q2), .second, .val (.long q3), .second, .val (.long q4), .second, .val (.int p5), .val (.int s1_), .val (.int s2_), .val (.int kd), .val (.long c2), .second, .val (.long d2), .second, .val (.ref b5_), .val (.ref b9_), .val (.int ex)] [(.int (if c2 = q1 then (if d2 = q2 then (1 : Int32) else (0 : Int32)) else (0 : Int32)))]))
    refine own_fin (b := T20_.setTop (mkF mM 182 #[.val (.long q1), .second, .val (.long q2), .second, .val (.long q3), .second, .val (.long q4), .second, .val (.int p5), .val (.int s1_), .val (.int s2_), .val (.int kd), .val (.long c2), .second, .val (.long d2), .second, .val (.ref b5_), .val (.ref b9_), .val (.int ex)] [(.int (1 : Int32))])) (fun tT kK => ?_) ?_
    · show Steps pP.tables eE below (T20_.setTop (mkF mM 172 #[.val (.long q1), .second, .val (.long q2), .second, .val (.long q3), .second, .val (.long q4), .second, .val (.int p5), .val (.int s1_), .val (.int s2_), .val (.int kd), .val (.long c2), .second, .val (.long d2), .second, .val (.ref b5_), .val (.ref b9_), .val (.int ex)] [(.int (if c2 = q1 then (if d2 = q2 then (1 : Int32) else (0 : Int32)) else (0 : Int32)))])) tT
      refine XS.iload X20_.here hx rfl (Jvm.hb hby at_172) rfl ?_
      show Steps pP.tables eE below (T20_.setTop (mkF mM 174 #[.val (.long q1), .second, .val (.long q2), .second, .val (.long q3), .second, .val (.long q4), .second, .val (.int p5), .val (.int s1_), .val (.int s2_), .val (.int kd), .val (.long c2), .second, .val (.long d2), .second, .val (.ref b5_), .val (.ref b9_), .val (.int ex)] [(.int ex), (.int (if c2 = q1 then (if d2 = q2 then (1 : Int32) else (0 : Int32)) else (0 : Int32)))])) tT
      refine XS.icmpNo X20_.here hx rfl (Jvm.hb hby at_174) rfl (teq (hex.symm : (if c2 = q1 then (if d2 = q2 then (1 : Int32) else (0 : Int32)) else (0 : Int32)) = ex)).2 ?_
      show Steps pP.tables eE below (T20_.setTop (mkF mM 177 #[.val (.long q1), .second, .val (.long q2), .second, .val (.long q3), .second, .val (.long q4), .second, .val (.int p5), .val (.int s1_), .val (.int s2_), .val (.int kd), .val (.long c2), .second, .val (.long d2), .second, .val (.ref b5_), .val (.ref b9_), .val (.int ex)] [])) tT
      refine XS.iconst X20_.here hx rfl (Jvm.hb hby at_177) ?_
      show Steps pP.tables eE below (T20_.setTop (mkF mM 178 #[.val (.long q1), .second, .val (.long q2), .second, .val (.long q3), .second, .val (.long q4), .second, .val (.int p5), .val (.int s1_), .val (.int s2_), .val (.int kd), .val (.long c2), .second, .val (.long d2), .second, .val (.ref b5_), .val (.ref b9_), .val (.int ex)] [(.int (1 : Int32))])) tT
      refine XS.goto X20_.here hx rfl (pc0 := 178) (pc' := 182) rfl (Jvm.hb hby at_178) (by decide) (by decide) ?_
      show Steps pP.tables eE below (T20_.setTop (mkF mM 182 #[.val (.long q1), .second, .val (.long q2), .second, .val (.long q3), .second, .val (.long q4), .second, .val (.int p5), .val (.int s1_), .val (.int s2_), .val (.int kd), .val (.long c2), .second, .val (.long d2), .second, .val (.ref b5_), .val (.ref b9_), .val (.int ex)] [(.int (1 : Int32))])) tT
      exact kK
    obtain ⟨fs, hr, hrun, hended, hW, hsame⟩ := X20_.leave (v := some (.int (1 : Int32))) (fun h => by rw [Bd.returns] at h; cases h)
    refine ⟨_, _, ?_, hrun, hended, _, _, rfl, ?_, ⟨_, rfl⟩, hW, hsame.mono (by decide) (by decide)⟩
    · show Steps pP.tables eE below (T20_.setTop (mkF mM 182 #[.val (.long q1), .second, .val (.long q2), .second, .val (.long q3), .second, .val (.long q4), .second, .val (.int p5), .val (.int s1_), .val (.int s2_), .val (.int kd), .val (.long c2), .second, .val (.long d2), .second, .val (.ref b5_), .val (.ref b9_), .val (.int ex)] [(.int (1 : Int32))])) _
      exact retN X20_ hx (t := .boolean) Bd.returns (by simp) (Jvm.hb hby at_182) hr
    · show Q_rm0 Z q1 q2 q3 q4 p5 h0 n0 _ T20_.heap _
      rw [p20__0]
      exact ⟨rfl, N20_⟩
  · refine own_fin (b := T6_.setTop (mkF mM 118 #[.val (.long q1), .second, .val (.long q2), .second, .val (.long q3), .second, .val (.long q4), .second, .val (.int p5), .val (.int s1_), .val (.int s2_), .val (.int kd), .val (.long c2), .second, .val (.long d2), .second, .val (.ref b5_), .unset, .unset] [(.int (1 : Int32)), (.int kd)])) (fun tT kK => ?_) ?_
    · show Steps pP.tables eE below (T6_.setTop (mkF mM 75 #[.val (.long q1), .second, .val (.long q2), .second, .val (.long q3), .second, .val (.long q4), .second, .val (.int p5), .val (.int s1_), .val (.int s2_), .val (.int kd), .val (.long c2), .second, .val (.long d2), .second, .val (.ref b5_), .unset, .unset] [(.int kd)])) tT
      refine XS.ifYes X6_.here hx rfl (pc0 := 75) (pc' := 115) rfl (Jvm.hb hby at_75) rfl ((if0 _ _).trans (feq (hc75_8_ : ¬ (kd = (0 : Int32)))).2) (by decide) (by decide) ?_
      show Steps pP.tables eE below (T6_.setTop (mkF mM 115 #[.val (.long q1), .second, .val (.long q2), .second, .val (.long q3), .second, .val (.long q4), .second, .val (.int p5), .val (.int s1_), .val (.int s2_), .val (.int kd), .val (.long c2), .second, .val (.long d2), .second, .val (.ref b5_), .unset, .unset] [])) tT
      refine XS.iload X6_.here hx rfl (Jvm.hb hby at_115) rfl ?_
      show Steps pP.tables eE below (T6_.setTop (mkF mM 117 #[.val (.long q1), .second, .val (.long q2), .second, .val (.long q3), .second, .val (.long q4), .second, .val (.int p5), .val (.int s1_), .val (.int s2_), .val (.int kd), .val (.long c2), .second, .val (.long d2), .second, .val (.ref b5_), .unset, .unset] [(.int kd)])) tT
      refine XS.iconst X6_.here hx rfl (Jvm.hb hby at_117) ?_
      show Steps pP.tables eE below (T6_.setTop (mkF mM 118 #[.val (.long q1), .second, .val (.long q2), .second, .val (.long q3), .second, .val (.long q4), .second, .val (.int p5), .val (.int s1_), .val (.int s2_), .val (.int kd), .val (.long c2), .second, .val (.long d2), .second, .val (.ref b5_), .unset, .unset] [(.int (1 : Int32)), (.int kd)])) tT
      exact kK
    by_cases hc118_21_ : kd = (1 : Int32)
    · refine own_fin (b := T6_.setTop (mkF mM 121 #[.val (.long q1), .second, .val (.long q2), .second, .val (.long q3), .second, .val (.long q4), .second, .val (.int p5), .val (.int s1_), .val (.int s2_), .val (.int kd), .val (.long c2), .second, .val (.long d2), .second, .val (.ref b5_), .unset, .unset] [])) (fun tT kK => ?_) ?_
      · show Steps pP.tables eE below (T6_.setTop (mkF mM 118 #[.val (.long q1), .second, .val (.long q2), .second, .val (.long q3), .second, .val (.long q4), .second, .val (.int p5), .val (.int s1_), .val (.int s2_), .val (.int kd), .val (.long c2), .second, .val (.long d2), .second, .val (.ref b5_), .unset, .unset] [(.int (1 : Int32)), (.int kd)])) tT
        refine XS.icmpNo X6_.here hx rfl (Jvm.hb hby at_118) rfl (teq (hc118_21_ : kd = (1 : Int32))).2 ?_
        show Steps pP.tables eE below (T6_.setTop (mkF mM 121 #[.val (.long q1), .second, .val (.long q2), .second, .val (.long q3), .second, .val (.long q4), .second, .val (.int p5), .val (.int s1_), .val (.int s2_), .val (.int kd), .val (.long c2), .second, .val (.long d2), .second, .val (.ref b5_), .unset, .unset] [])) tT
        exact kK
      obtain ⟨T22_, h22_, X22_, e22_, E22_, A22_, D22_, -, st22_⟩ := newO X6_ hx hZ hown (hw _ (List.mem_of_getElem? (i := 20) rfl)) (hw _ (List.mem_of_getElem? (i := 21) rfl)) (hw _ (List.mem_of_getElem? (i := 22) rfl)) rfl (g := (mkF mM 121 #[.val (.long q1), .second, .val (.long q2), .second, .val (.long q3), .second, .val (.long q4), .second, .val (.int p5), .val (.int s1_), .val (.int s2_), .val (.int kd), .val (.long c2), .second, .val (.long d2), .second, .val (.ref b5_), .unset, .unset] [])) rfl (Jvm.hb hby at_121) (by decide) (by decide)
      obtain ⟨b22_, g22_⟩ : ∃ z, z = T6_.heap.size := ⟨_, rfl⟩
      rw [← g22_] at A22_ D22_ st22_
      have sz_b22_ : h0.size ≤ b22_ := Nat.le_trans K6_.1 (Nat.le_of_eq g22_.symm)
      have ge_b22_ : n0 ≤ b22_ := Nat.le_trans Z0 sz_b22_
      have ne23_ : b5_ ≠ b22_ := Nat.ne_of_lt (Nat.lt_of_lt_of_le p6__1.lt (Nat.le_of_eq g22_.symm))
      have fc24_ := p6__1.ext E22_
      have fc25_ := p6__2.ext E22_
      have fc26_ := p6__3.ext E22_
      have K22_ := K6_.ext E22_
      have F22__sequence : Fld Z h22_ b22_ "com/example/epoch/epoch/LogEvent" "sequence" "J" (.long (0 : Int64)) := D22_ (Or.inr (hw _ (List.mem_of_getElem? (i := 29) rfl))) (ty := .long) (by decide)
      have F22__epoch : Fld Z h22_ b22_ "com/example/epoch/epoch/LogEvent" "epoch" "J" (.long (0 : Int64)) := D22_ (Or.inr (hw _ (List.mem_of_getElem? (i := 31) rfl))) (ty := .long) (by decide)
      have F22__bytes : Fld Z h22_ b22_ "com/example/epoch/epoch/LogEvent" "bytes" "[B" .null := D22_ (Or.inr (hw _ (List.mem_of_getElem? (i := 33) rfl))) (ty := (.array .byte)) (by decide)
      refine own_fin st22_ ?_
      show own_Fin pP eE below _ (T22_.setTop (mkF mM 124 #[.val (.long q1), .second, .val (.long q2), .second, .val (.long q3), .second, .val (.long q4), .second, .val (.int p5), .val (.int s1_), .val (.int s2_), .val (.int kd), .val (.long c2), .second, .val (.long d2), .second, .val (.ref b5_), .unset, .unset] [(.ref b22_)]))
      refine own_fin (b := T22_.setTop (mkF mM 130 #[.val (.long q1), .second, .val (.long q2), .second, .val (.long q3), .second, .val (.long q4), .second, .val (.int p5), .val (.int s1_), .val (.int s2_), .val (.int kd), .val (.long c2), .second, .val (.long d2), .second, .val (.ref b5_), .unset, .unset] [(.int (0 : Int32)), (.long d2), (.long c2), (.ref b22_), (.ref b22_)])) (fun tT kK => ?_) ?_
      · show Steps pP.tables eE below (T22_.setTop (mkF mM 124 #[.val (.long q1), .second, .val (.long q2), .second, .val (.long q3), .second, .val (.long q4), .second, .val (.int p5), .val (.int s1_), .val (.int s2_), .val (.int kd), .val (.long c2), .second, .val (.long d2), .second, .val (.ref b5_), .unset, .unset] [(.ref b22_)])) tT
        refine XS.dup X22_.here hx rfl (Jvm.hb hby at_124) rfl rfl ?_
        show Steps pP.tables eE below (T22_.setTop (mkF mM 125 #[.val (.long q1), .second, .val (.long q2), .second, .val (.long q3), .second, .val (.long q4), .second, .val (.int p5), .val (.int s1_), .val (.int s2_), .val (.int kd), .val (.long c2), .second, .val (.long d2), .second, .val (.ref b5_), .unset, .unset] [(.ref b22_), (.ref b22_)])) tT
        refine XS.lload X22_.here hx rfl (Jvm.hb hby at_125) rfl ?_
        show Steps pP.tables eE below (T22_.setTop (mkF mM 127 #[.val (.long q1), .second, .val (.long q2), .second, .val (.long q3), .second, .val (.long q4), .second, .val (.int p5), .val (.int s1_), .val (.int s2_), .val (.int kd), .val (.long c2), .second, .val (.long d2), .second, .val (.ref b5_), .unset, .unset] [(.long c2), (.ref b22_), (.ref b22_)])) tT
        refine XS.lload X22_.here hx rfl (Jvm.hb hby at_127) rfl ?_
        show Steps pP.tables eE below (T22_.setTop (mkF mM 129 #[.val (.long q1), .second, .val (.long q2), .second, .val (.long q3), .second, .val (.long q4), .second, .val (.int p5), .val (.int s1_), .val (.int s2_), .val (.int kd), .val (.long c2), .second, .val (.long d2), .second, .val (.ref b5_), .unset, .unset] [(.long d2), (.long c2), (.ref b22_), (.ref b22_)])) tT
        refine XS.iconst X22_.here hx rfl (Jvm.hb hby at_129) ?_
        show Steps pP.tables eE below (T22_.setTop (mkF mM 130 #[.val (.long q1), .second, .val (.long q2), .second, .val (.long q3), .second, .val (.long q4), .second, .val (.int p5), .val (.int s1_), .val (.int s2_), .val (.int kd), .val (.long c2), .second, .val (.long d2), .second, .val (.ref b5_), .unset, .unset] [(.int (0 : Int32)), (.long d2), (.long c2), (.ref b22_), (.ref b22_)])) tT
        exact kK
      obtain ⟨T27_, h27_, k27_, X27_, e27_, E27_, A27_, st27_⟩ := newP X22_ hx hZ (hw _ (List.mem_of_getElem? (i := 23) rfl)) e22_ (g := (mkF mM 130 #[.val (.long q1), .second, .val (.long q2), .second, .val (.long q3), .second, .val (.long q4), .second, .val (.int p5), .val (.int s1_), .val (.int s2_), .val (.int kd), .val (.long c2), .second, .val (.long d2), .second, .val (.ref b5_), .unset, .unset] [(.int (0 : Int32)), (.long d2), (.long c2), (.ref b22_), (.ref b22_)])) rfl (Jvm.hb hby at_130) rfl (by decide) (cap := 0) (by decide) (by decide) (by decide) (by decide)
      obtain ⟨b27_, g27_⟩ : ∃ z, z = h22_.size := ⟨_, rfl⟩
      rw [← g27_] at A27_ st27_
      have sz_b27_ : h0.size ≤ b27_ := Nat.le_trans K22_.1 (Nat.le_of_eq g27_.symm)
      have ge_b27_ : n0 ≤ b27_ := Nat.le_trans Z0 sz_b27_
      have ne28_ : b5_ ≠ b27_ := Nat.ne_of_lt (Nat.lt_of_lt_of_le fc24_.lt (Nat.le_of_eq g27_.symm))
      have ne29_ : b22_ ≠ b27_ := Nat.ne_of_lt (Nat.lt_of_lt_of_le A22_.lt (Nat.le_of_eq g27_.symm))
      have fc30_ := fc24_.ext E27_
      have fc31_ := fc25_.ext E27_
      have fc32_ := fc26_.ext E27_
      have fc33_ := A22_.ext E27_
      have fc34_ := F22__sequence.ext E27_
      have fc35_ := F22__epoch.ext E27_
      have fc36_ := F22__bytes.ext E27_
      have K27_ := K22_.ext E27_
      have V27_ : Arv Z h27_ b27_ k27_ .byte (0 : Int32) [] (.int (0 : Int32)) := Arv.new A27_ (by decide)
      refine own_fin st27_ ?_
      show own_Fin pP eE below _ (T27_.setTop (mkF mM 132 #[.val (.long q1), .second, .val (.long q2), .second, .val (.long q3), .second, .val (.long q4), .second, .val (.int p5), .val (.int s1_), .val (.int s2_), .val (.int kd), .val (.long c2), .second, .val (.long d2), .second, .val (.ref b5_), .unset, .unset] [(.ref b27_), (.long d2), (.long c2), (.ref b22_), (.ref b22_)]))
      obtain ⟨_, _, ⟨T37_, L37_, k37_, n37_⟩, -, X37_, ⟨Lc37_, hQ37_, l37_, y37_, z37_⟩, st37_⟩ := X27_.specialBack hx (y := (⟨"com/example/epoch/epoch/LogEvent", "<init>", "(JJ[B)V"⟩ : MethodName)) rfl hown (mvT hZ (hw _ (List.mem_of_getElem? (i := 24) rfl))) (mvT hZ (hw _ (List.mem_of_getElem? (i := 25) rfl))) (mvT hZ (hw _ (List.mem_of_getElem? (i := 26) rfl))) (by decide) (backOf (W := 1) (rm_log lL Z a0 hw [] b22_ c2 d2 b27_ h27_ n0 (Nat.le_trans Z0 K27_.1) fc33_ fc34_ fc35_ fc36_ ge_b22_) hZ (hw _ (List.mem_of_getElem? (i := 26) rfl)) (hw _ (List.mem_of_getElem? (i := 22) rfl)) (by decide) (by decide)) (g := (mkF mM 132 #[.val (.long q1), .second, .val (.long q2), .second, .val (.long q3), .second, .val (.long q4), .second, .val (.int p5), .val (.int s1_), .val (.int s2_), .val (.int kd), .val (.long c2), .second, .val (.long d2), .second, .val (.ref b5_), .unset, .unset] [(.ref b27_), (.long d2), (.long c2), (.ref b22_), (.ref b22_)])) rfl (by rw [hml]; rfl) (Steps.refl _) (a := b22_) (argsL := [(.long c2), (.long d2), (.ref b27_)]) (rest := [(.ref b22_)]) (lenOf own_pd2 rfl) rfl (by show 2 * 0 + _ ≤ _; exact Nat.le_of_eq rfl) (Jvm.hb hby at_132) (fun _ _ => ⟨rfl, e27_, (by decide : 3 + 0 ≤ _), (by decide : 5 + 0 ≤ _)⟩)
      dsimp only [Pt.U, Pt.locs, Pt.cells, Pt.slots] at X37_ l37_ y37_ z37_ st37_ hQ37_
      subst l37_ y37_ z37_
      obtain ⟨rfl, N37_q, p37__0, p37__1, p37__2, p37__3, p37__4⟩ := hQ37_
      have N37_ := Fr.app N6_ N37_q
      have fc38_ := fc30_.keep p37__0
      have fc39_ := fc31_.keep p37__0 (ninS ne23_ nin0)
      have fc40_ := fc32_.keep p37__0 (ninS ne23_ nin0)
      have fc41_ := fc33_.keep p37__0
      have fc42_ := V27_.keep p37__0 (ninS (Ne.symm ne29_) nin0)
      have K37_ := K27_.trans p37__0 (allS (Or.inr sz_b22_) all0)
      refine own_fin (fun tT kK => st37_.trans kK) ?_
      show own_Fin pP eE below _ (T37_.setTop (mkF mM 135 #[.val (.long q1), .second, .val (.long q2), .second, .val (.long q3), .second, .val (.long q4), .second, .val (.int p5), .val (.int s1_), .val (.int s2_), .val (.int kd), .val (.long c2), .second, .val (.long d2), .second, .val (.ref b5_), .unset, .unset] [(.ref b22_)]))
      refine own_fin (b := T37_.setTop (mkF mM 169 #[.val (.long q1), .second, .val (.long q2), .second, .val (.long q3), .second, .val (.long q4), .second, .val (.int p5), .val (.int s1_), .val (.int s2_), .val (.int kd), .val (.long c2), .second, .val (.long d2), .second, .val (.ref b5_), .val (.ref b22_), .val (.int (0 : Int32))] [(.ref b22_), (.ref b5_)])) (fun tT kK => ?_) ?_
      · show Steps pP.tables eE below (T37_.setTop (mkF mM 135 #[.val (.long q1), .second, .val (.long q2), .second, .val (.long q3), .second, .val (.long q4), .second, .val (.int p5), .val (.int s1_), .val (.int s2_), .val (.int kd), .val (.long c2), .second, .val (.long d2), .second, .val (.ref b5_), .unset, .unset] [(.ref b22_)])) tT
        refine XS.astore X37_.here hx rfl (Jvm.hb hby at_135) rfl rfl (l' := #[.val (.long q1), .second, .val (.long q2), .second, .val (.long q3), .second, .val (.long q4), .second, .val (.int p5), .val (.int s1_), .val (.int s2_), .val (.int kd), .val (.long c2), .second, .val (.long d2), .second, .val (.ref b5_), .val (.ref b22_), .unset]) rfl ?_
        show Steps pP.tables eE below (T37_.setTop (mkF mM 137 #[.val (.long q1), .second, .val (.long q2), .second, .val (.long q3), .second, .val (.long q4), .second, .val (.int p5), .val (.int s1_), .val (.int s2_), .val (.int kd), .val (.long c2), .second, .val (.long d2), .second, .val (.ref b5_), .val (.ref b22_), .unset] [])) tT
        refine XS.iconst X37_.here hx rfl (Jvm.hb hby at_137) ?_
        show Steps pP.tables eE below (T37_.setTop (mkF mM 138 #[.val (.long q1), .second, .val (.long q2), .second, .val (.long q3), .second, .val (.long q4), .second, .val (.int p5), .val (.int s1_), .val (.int s2_), .val (.int kd), .val (.long c2), .second, .val (.long d2), .second, .val (.ref b5_), .val (.ref b22_), .unset] [(.int (0 : Int32))])) tT
        refine XS.istore X37_.here hx rfl (Jvm.hb hby at_138) rfl (l' := #[.val (.long q1), .second, .val (.long q2), .second, .val (.long q3), .second, .val (.long q4), .second, .val (.int p5), .val (.int s1_), .val (.int s2_), .val (.int kd), .val (.long c2), .second, .val (.long d2), .second, .val (.ref b5_), .val (.ref b22_), .val (.int (0 : Int32))]) rfl ?_
        show Steps pP.tables eE below (T37_.setTop (mkF mM 140 #[.val (.long q1), .second, .val (.long q2), .second, .val (.long q3), .second, .val (.long q4), .second, .val (.int p5), .val (.int s1_), .val (.int s2_), .val (.int kd), .val (.long c2), .second, .val (.long d2), .second, .val (.ref b5_), .val (.ref b22_), .val (.int (0 : Int32))] [])) tT
        refine XS.goto X37_.here hx rfl (pc0 := 140) (pc' := 165) rfl (Jvm.hb hby at_140) (by decide) (by decide) ?_
        show Steps pP.tables eE below (T37_.setTop (mkF mM 165 #[.val (.long q1), .second, .val (.long q2), .second, .val (.long q3), .second, .val (.long q4), .second, .val (.int p5), .val (.int s1_), .val (.int s2_), .val (.int kd), .val (.long c2), .second, .val (.long d2), .second, .val (.ref b5_), .val (.ref b22_), .val (.int (0 : Int32))] [])) tT
        refine XS.aload X37_.here hx rfl (Jvm.hb hby at_165) rfl rfl ?_
        show Steps pP.tables eE below (T37_.setTop (mkF mM 167 #[.val (.long q1), .second, .val (.long q2), .second, .val (.long q3), .second, .val (.long q4), .second, .val (.int p5), .val (.int s1_), .val (.int s2_), .val (.int kd), .val (.long c2), .second, .val (.long d2), .second, .val (.ref b5_), .val (.ref b22_), .val (.int (0 : Int32))] [(.ref b5_)])) tT
        refine XS.aload X37_.here hx rfl (Jvm.hb hby at_167) rfl rfl ?_
        show Steps pP.tables eE below (T37_.setTop (mkF mM 169 #[.val (.long q1), .second, .val (.long q2), .second, .val (.long q3), .second, .val (.long q4), .second, .val (.int p5), .val (.int s1_), .val (.int s2_), .val (.int kd), .val (.long c2), .second, .val (.long d2), .second, .val (.ref b5_), .val (.ref b22_), .val (.int (0 : Int32))] [(.ref b22_), (.ref b5_)])) tT
        exact kK
      obtain ⟨cq43_, kq43_, q43_a, q43_b, q43_c⟩ := isOf hZ rfl fc38_
      obtain ⟨_, _, ⟨T43_, L43_, k43_, n43_⟩, -, X43_, ⟨Lc43_, hQ43_, l43_, y43_, z43_⟩, st43_⟩ := X37_.virtualBack hx (y := (⟨"com/example/epoch/epoch/Hole", "equals", "(Ljava/lang/Object;)Z"⟩ : MethodName)) (z := (⟨"com/example/epoch/epoch/Hole", "equals", "(Ljava/lang/Object;)Z"⟩ : MethodName)) hown (mvT hZ (hw _ (List.mem_of_getElem? (i := 13) rfl))) (mvT hZ (hw _ (List.mem_of_getElem? (i := 14) rfl))) (notFace_of_selects (args := #[]) (mvT hZ (hw _ (List.mem_of_getElem? (i := 16) rfl)))) (mvT hZ (hw _ (List.mem_of_getElem? (i := 16) rfl))) (mvT hZ (hw _ (List.mem_of_getElem? (i := 15) rfl))) (by decide) (backOf (W := 0) (rm_no lL Z a0 hw [] b5_ b22_ T37_.heap n0 (Nat.le_trans Z0 K37_.1) p37__1) hZ (hw _ (List.mem_of_getElem? (i := 17) rfl)) (hw _ (List.mem_of_getElem? (i := 2) rfl)) (by decide) (by decide)) q43_a q43_c (g := (mkF mM 169 #[.val (.long q1), .second, .val (.long q2), .second, .val (.long q3), .second, .val (.long q4), .second, .val (.int p5), .val (.int s1_), .val (.int s2_), .val (.int kd), .val (.long c2), .second, .val (.long d2), .second, .val (.ref b5_), .val (.ref b22_), .val (.int (0 : Int32))] [(.ref b22_), (.ref b5_)])) rfl (by rw [hml]; rfl) (Steps.refl _) (argsL := [(.ref b22_)]) (rest := []) (lenOf own_pd1 rfl) rfl (by show 2 * 0 + _ ≤ _; exact Nat.le_of_eq rfl) (Jvm.hb hby at_169) (fun _ _ => ⟨rfl, rfl, (by decide : 3 + 0 ≤ _), (by decide : 5 + 0 ≤ _)⟩)
      dsimp only [Pt.U, Pt.locs, Pt.cells, Pt.slots] at X43_ l43_ y43_ z43_ st43_ hQ43_
      subst l43_ y43_ z43_
      obtain ⟨rfl, N43_q, p43__0⟩ := hQ43_
      have N43_ := Fr.app N37_ N43_q
      refine own_fin (fun tT kK => st43_.trans kK) ?_
      show own_Fin pP eE below _ (T43_.setTop (mkF mM 172 #[.val (.long q1), .second, .val (.long q2), .second, .val (.long q3), .second, .val (.long q4), .second, .val (.int p5), .val (.int s1_), .val (.int s2_), .val (.int kd), .val (.long c2), .second, .val (.long d2), .second, .val (.ref b5_), .val (.ref b22_), .val (.int (0 : Int32))] [(.int (0 : Int32))]))
      refine own_fin (b := T43_.setTop (mkF mM 182 #[.val (.long q1), .second, .val (.long q2), .second, .val (.long q3), .second, .val (.long q4), .second, .val (.int p5), .val (.int s1_), .val (.int s2_), .val (.int kd), .val (.long c2), .second, .val (.long d2), .second, .val (.ref b5_), .val (.ref b22_), .val (.int (0 : Int32))] [(.int (1 : Int32))])) (fun tT kK => ?_) ?_
      · show Steps pP.tables eE below (T43_.setTop (mkF mM 172 #[.val (.long q1), .second, .val (.long q2), .second, .val (.long q3), .second, .val (.long q4), .second, .val (.int p5), .val (.int s1_), .val (.int s2_), .val (.int kd), .val (.long c2), .second, .val (.long d2), .second, .val (.ref b5_), .val (.ref b22_), .val (.int (0 : Int32))] [(.int (0 : Int32))])) tT
        refine XS.iload X43_.here hx rfl (Jvm.hb hby at_172) rfl ?_
        show Steps pP.tables eE below (T43_.setTop (mkF mM 174 #[.val (.long q1), .second, .val (.long q2), .second, .val (.long q3), .second, .val (.long q4), .second, .val (.int p5), .val (.int s1_), .val (.int s2_), .val (.int kd), .val (.long c2), .second, .val (.long d2), .second, .val (.ref b5_), .val (.ref b22_), .val (.int (0 : Int32))] [(.int (0 : Int32)), (.int (0 : Int32))])) tT
        refine XS.icmpNo X43_.here hx rfl (Jvm.hb hby at_174) rfl (teq ((by decide) : (0 : Int32) = (0 : Int32))).2 ?_
        show Steps pP.tables eE below (T43_.setTop (mkF mM 177 #[.val (.long q1), .second, .val (.long q2), .second, .val (.long q3), .second, .val (.long q4), .second, .val (.int p5), .val (.int s1_), .val (.int s2_), .val (.int kd), .val (.long c2), .second, .val (.long d2), .second, .val (.ref b5_), .val (.ref b22_), .val (.int (0 : Int32))] [])) tT
        refine XS.iconst X43_.here hx rfl (Jvm.hb hby at_177) ?_
        show Steps pP.tables eE below (T43_.setTop (mkF mM 178 #[.val (.long q1), .second, .val (.long q2), .second, .val (.long q3), .second, .val (.long q4), .second, .val (.int p5), .val (.int s1_), .val (.int s2_), .val (.int kd), .val (.long c2), .second, .val (.long d2), .second, .val (.ref b5_), .val (.ref b22_), .val (.int (0 : Int32))] [(.int (1 : Int32))])) tT
        refine XS.goto X43_.here hx rfl (pc0 := 178) (pc' := 182) rfl (Jvm.hb hby at_178) (by decide) (by decide) ?_
        show Steps pP.tables eE below (T43_.setTop (mkF mM 182 #[.val (.long q1), .second, .val (.long q2), .second, .val (.long q3), .second, .val (.long q4), .second, .val (.int p5), .val (.int s1_), .val (.int s2_), .val (.int kd), .val (.long c2), .second, .val (.long d2), .second, .val (.ref b5_), .val (.ref b22_), .val (.int (0 : Int32))] [(.int (1 : Int32))])) tT
        exact kK
      obtain ⟨fs, hr, hrun, hended, hW, hsame⟩ := X43_.leave (v := some (.int (1 : Int32))) (fun h => by rw [Bd.returns] at h; cases h)
      refine ⟨_, _, ?_, hrun, hended, _, _, rfl, ?_, ⟨_, rfl⟩, hW, hsame.mono (by decide) (by decide)⟩
      · show Steps pP.tables eE below (T43_.setTop (mkF mM 182 #[.val (.long q1), .second, .val (.long q2), .second, .val (.long q3), .second, .val (.long q4), .second, .val (.int p5), .val (.int s1_), .val (.int s2_), .val (.int kd), .val (.long c2), .second, .val (.long d2), .second, .val (.ref b5_), .val (.ref b22_), .val (.int (0 : Int32))] [(.int (1 : Int32))])) _
        exact retN X43_ hx (t := .boolean) Bd.returns (by simp) (Jvm.hb hby at_182) hr
      · show Q_rm0 Z q1 q2 q3 q4 p5 h0 n0 _ T43_.heap _
        rw [p43__0]
        exact ⟨rfl, N43_⟩
    · refine own_fin (b := T6_.setTop (mkF mM 146 #[.val (.long q1), .second, .val (.long q2), .second, .val (.long q3), .second, .val (.long q4), .second, .val (.int p5), .val (.int s1_), .val (.int s2_), .val (.int kd), .val (.long c2), .second, .val (.long d2), .second, .val (.ref b5_), .unset, .unset] [(.int (2 : Int32)), (.int kd)])) (fun tT kK => ?_) ?_
      · show Steps pP.tables eE below (T6_.setTop (mkF mM 118 #[.val (.long q1), .second, .val (.long q2), .second, .val (.long q3), .second, .val (.long q4), .second, .val (.int p5), .val (.int s1_), .val (.int s2_), .val (.int kd), .val (.long c2), .second, .val (.long d2), .second, .val (.ref b5_), .unset, .unset] [(.int (1 : Int32)), (.int kd)])) tT
        refine XS.icmpYes X6_.here hx rfl (pc0 := 118) (pc' := 143) rfl (Jvm.hb hby at_118) rfl (feq (hc118_21_ : ¬ (kd = (1 : Int32)))).2 (by decide) (by decide) ?_
        show Steps pP.tables eE below (T6_.setTop (mkF mM 143 #[.val (.long q1), .second, .val (.long q2), .second, .val (.long q3), .second, .val (.long q4), .second, .val (.int p5), .val (.int s1_), .val (.int s2_), .val (.int kd), .val (.long c2), .second, .val (.long d2), .second, .val (.ref b5_), .unset, .unset] [])) tT
        refine XS.iload X6_.here hx rfl (Jvm.hb hby at_143) rfl ?_
        show Steps pP.tables eE below (T6_.setTop (mkF mM 145 #[.val (.long q1), .second, .val (.long q2), .second, .val (.long q3), .second, .val (.long q4), .second, .val (.int p5), .val (.int s1_), .val (.int s2_), .val (.int kd), .val (.long c2), .second, .val (.long d2), .second, .val (.ref b5_), .unset, .unset] [(.int kd)])) tT
        refine XS.iconst X6_.here hx rfl (Jvm.hb hby at_145) ?_
        show Steps pP.tables eE below (T6_.setTop (mkF mM 146 #[.val (.long q1), .second, .val (.long q2), .second, .val (.long q3), .second, .val (.long q4), .second, .val (.int p5), .val (.int s1_), .val (.int s2_), .val (.int kd), .val (.long c2), .second, .val (.long d2), .second, .val (.ref b5_), .unset, .unset] [(.int (2 : Int32)), (.int kd)])) tT
        exact kK
      by_cases hc146_44_ : kd = (2 : Int32)
      · refine own_fin (b := T6_.setTop (mkF mM 169 #[.val (.long q1), .second, .val (.long q2), .second, .val (.long q3), .second, .val (.long q4), .second, .val (.int p5), .val (.int s1_), .val (.int s2_), .val (.int kd), .val (.long c2), .second, .val (.long d2), .second, .val (.ref b5_), .val .null, .val (.int (0 : Int32))] [.null, (.ref b5_)])) (fun tT kK => ?_) ?_
        · show Steps pP.tables eE below (T6_.setTop (mkF mM 146 #[.val (.long q1), .second, .val (.long q2), .second, .val (.long q3), .second, .val (.long q4), .second, .val (.int p5), .val (.int s1_), .val (.int s2_), .val (.int kd), .val (.long c2), .second, .val (.long d2), .second, .val (.ref b5_), .unset, .unset] [(.int (2 : Int32)), (.int kd)])) tT
          refine XS.icmpNo X6_.here hx rfl (Jvm.hb hby at_146) rfl (teq (hc146_44_ : kd = (2 : Int32))).2 ?_
          show Steps pP.tables eE below (T6_.setTop (mkF mM 149 #[.val (.long q1), .second, .val (.long q2), .second, .val (.long q3), .second, .val (.long q4), .second, .val (.int p5), .val (.int s1_), .val (.int s2_), .val (.int kd), .val (.long c2), .second, .val (.long d2), .second, .val (.ref b5_), .unset, .unset] [])) tT
          refine XS.aconstNull X6_.here hx rfl (Jvm.hb hby at_149) ?_
          show Steps pP.tables eE below (T6_.setTop (mkF mM 150 #[.val (.long q1), .second, .val (.long q2), .second, .val (.long q3), .second, .val (.long q4), .second, .val (.int p5), .val (.int s1_), .val (.int s2_), .val (.int kd), .val (.long c2), .second, .val (.long d2), .second, .val (.ref b5_), .unset, .unset] [.null])) tT
          refine XS.astore X6_.here hx rfl (Jvm.hb hby at_150) rfl rfl (l' := #[.val (.long q1), .second, .val (.long q2), .second, .val (.long q3), .second, .val (.long q4), .second, .val (.int p5), .val (.int s1_), .val (.int s2_), .val (.int kd), .val (.long c2), .second, .val (.long d2), .second, .val (.ref b5_), .val .null, .unset]) rfl ?_
          show Steps pP.tables eE below (T6_.setTop (mkF mM 152 #[.val (.long q1), .second, .val (.long q2), .second, .val (.long q3), .second, .val (.long q4), .second, .val (.int p5), .val (.int s1_), .val (.int s2_), .val (.int kd), .val (.long c2), .second, .val (.long d2), .second, .val (.ref b5_), .val .null, .unset] [])) tT
          refine XS.iconst X6_.here hx rfl (Jvm.hb hby at_152) ?_
          show Steps pP.tables eE below (T6_.setTop (mkF mM 153 #[.val (.long q1), .second, .val (.long q2), .second, .val (.long q3), .second, .val (.long q4), .second, .val (.int p5), .val (.int s1_), .val (.int s2_), .val (.int kd), .val (.long c2), .second, .val (.long d2), .second, .val (.ref b5_), .val .null, .unset] [(.int (0 : Int32))])) tT
          refine XS.istore X6_.here hx rfl (Jvm.hb hby at_153) rfl (l' := #[.val (.long q1), .second, .val (.long q2), .second, .val (.long q3), .second, .val (.long q4), .second, .val (.int p5), .val (.int s1_), .val (.int s2_), .val (.int kd), .val (.long c2), .second, .val (.long d2), .second, .val (.ref b5_), .val .null, .val (.int (0 : Int32))]) rfl ?_
          show Steps pP.tables eE below (T6_.setTop (mkF mM 155 #[.val (.long q1), .second, .val (.long q2), .second, .val (.long q3), .second, .val (.long q4), .second, .val (.int p5), .val (.int s1_), .val (.int s2_), .val (.int kd), .val (.long c2), .second, .val (.long d2), .second, .val (.ref b5_), .val .null, .val (.int (0 : Int32))] [])) tT
          refine XS.goto X6_.here hx rfl (pc0 := 155) (pc' := 165) rfl (Jvm.hb hby at_155) (by decide) (by decide) ?_
          show Steps pP.tables eE below (T6_.setTop (mkF mM 165 #[.val (.long q1), .second, .val (.long q2), .second, .val (.long q3), .second, .val (.long q4), .second, .val (.int p5), .val (.int s1_), .val (.int s2_), .val (.int kd), .val (.long c2), .second, .val (.long d2), .second, .val (.ref b5_), .val .null, .val (.int (0 : Int32))] [])) tT
          refine XS.aload X6_.here hx rfl (Jvm.hb hby at_165) rfl rfl ?_
          show Steps pP.tables eE below (T6_.setTop (mkF mM 167 #[.val (.long q1), .second, .val (.long q2), .second, .val (.long q3), .second, .val (.long q4), .second, .val (.int p5), .val (.int s1_), .val (.int s2_), .val (.int kd), .val (.long c2), .second, .val (.long d2), .second, .val (.ref b5_), .val .null, .val (.int (0 : Int32))] [(.ref b5_)])) tT
          refine XS.aload X6_.here hx rfl (Jvm.hb hby at_167) rfl rfl ?_
          show Steps pP.tables eE below (T6_.setTop (mkF mM 169 #[.val (.long q1), .second, .val (.long q2), .second, .val (.long q3), .second, .val (.long q4), .second, .val (.int p5), .val (.int s1_), .val (.int s2_), .val (.int kd), .val (.long c2), .second, .val (.long d2), .second, .val (.ref b5_), .val .null, .val (.int (0 : Int32))] [.null, (.ref b5_)])) tT
          exact kK
        obtain ⟨cq45_, kq45_, q45_a, q45_b, q45_c⟩ := isOf hZ rfl p6__1
        obtain ⟨_, _, ⟨T45_, L45_, k45_, n45_⟩, -, X45_, ⟨Lc45_, hQ45_, l45_, y45_, z45_⟩, st45_⟩ := X6_.virtualBack hx (y := (⟨"com/example/epoch/epoch/Hole", "equals", "(Ljava/lang/Object;)Z"⟩ : MethodName)) (z := (⟨"com/example/epoch/epoch/Hole", "equals", "(Ljava/lang/Object;)Z"⟩ : MethodName)) hown (mvT hZ (hw _ (List.mem_of_getElem? (i := 13) rfl))) (mvT hZ (hw _ (List.mem_of_getElem? (i := 14) rfl))) (notFace_of_selects (args := #[]) (mvT hZ (hw _ (List.mem_of_getElem? (i := 16) rfl)))) (mvT hZ (hw _ (List.mem_of_getElem? (i := 16) rfl))) (mvT hZ (hw _ (List.mem_of_getElem? (i := 15) rfl))) (by decide) (backOf (W := 0) (rm_null lL Z a0 hw [] b5_ T6_.heap n0 (Nat.le_trans Z0 K6_.1) ) hZ (hw _ (List.mem_of_getElem? (i := 17) rfl)) (hw _ (List.mem_of_getElem? (i := 2) rfl)) (by decide) (by decide)) q45_a q45_c (g := (mkF mM 169 #[.val (.long q1), .second, .val (.long q2), .second, .val (.long q3), .second, .val (.long q4), .second, .val (.int p5), .val (.int s1_), .val (.int s2_), .val (.int kd), .val (.long c2), .second, .val (.long d2), .second, .val (.ref b5_), .val .null, .val (.int (0 : Int32))] [.null, (.ref b5_)])) rfl (by rw [hml]; rfl) (Steps.refl _) (argsL := [.null]) (rest := []) (lenOf own_pd1 rfl) rfl (by show 2 * 0 + _ ≤ _; exact Nat.le_of_eq rfl) (Jvm.hb hby at_169) (fun _ _ => ⟨rfl, rfl, (by decide : 1 + 0 ≤ _), (by decide : 2 + 0 ≤ _)⟩)
        dsimp only [Pt.U, Pt.locs, Pt.cells, Pt.slots] at X45_ l45_ y45_ z45_ st45_ hQ45_
        subst l45_ y45_ z45_
        obtain ⟨rfl, N45_q, p45__0⟩ := hQ45_
        have N45_ := Fr.app N6_ N45_q
        refine own_fin (fun tT kK => st45_.trans kK) ?_
        show own_Fin pP eE below _ (T45_.setTop (mkF mM 172 #[.val (.long q1), .second, .val (.long q2), .second, .val (.long q3), .second, .val (.long q4), .second, .val (.int p5), .val (.int s1_), .val (.int s2_), .val (.int kd), .val (.long c2), .second, .val (.long d2), .second, .val (.ref b5_), .val .null, .val (.int (0 : Int32))] [(.int (0 : Int32))]))
        refine own_fin (b := T45_.setTop (mkF mM 182 #[.val (.long q1), .second, .val (.long q2), .second, .val (.long q3), .second, .val (.long q4), .second, .val (.int p5), .val (.int s1_), .val (.int s2_), .val (.int kd), .val (.long c2), .second, .val (.long d2), .second, .val (.ref b5_), .val .null, .val (.int (0 : Int32))] [(.int (1 : Int32))])) (fun tT kK => ?_) ?_
        · show Steps pP.tables eE below (T45_.setTop (mkF mM 172 #[.val (.long q1), .second, .val (.long q2), .second, .val (.long q3), .second, .val (.long q4), .second, .val (.int p5), .val (.int s1_), .val (.int s2_), .val (.int kd), .val (.long c2), .second, .val (.long d2), .second, .val (.ref b5_), .val .null, .val (.int (0 : Int32))] [(.int (0 : Int32))])) tT
          refine XS.iload X45_.here hx rfl (Jvm.hb hby at_172) rfl ?_
          show Steps pP.tables eE below (T45_.setTop (mkF mM 174 #[.val (.long q1), .second, .val (.long q2), .second, .val (.long q3), .second, .val (.long q4), .second, .val (.int p5), .val (.int s1_), .val (.int s2_), .val (.int kd), .val (.long c2), .second, .val (.long d2), .second, .val (.ref b5_), .val .null, .val (.int (0 : Int32))] [(.int (0 : Int32)), (.int (0 : Int32))])) tT
          refine XS.icmpNo X45_.here hx rfl (Jvm.hb hby at_174) rfl (teq ((by decide) : (0 : Int32) = (0 : Int32))).2 ?_
          show Steps pP.tables eE below (T45_.setTop (mkF mM 177 #[.val (.long q1), .second, .val (.long q2), .second, .val (.long q3), .second, .val (.long q4), .second, .val (.int p5), .val (.int s1_), .val (.int s2_), .val (.int kd), .val (.long c2), .second, .val (.long d2), .second, .val (.ref b5_), .val .null, .val (.int (0 : Int32))] [])) tT
          refine XS.iconst X45_.here hx rfl (Jvm.hb hby at_177) ?_
          show Steps pP.tables eE below (T45_.setTop (mkF mM 178 #[.val (.long q1), .second, .val (.long q2), .second, .val (.long q3), .second, .val (.long q4), .second, .val (.int p5), .val (.int s1_), .val (.int s2_), .val (.int kd), .val (.long c2), .second, .val (.long d2), .second, .val (.ref b5_), .val .null, .val (.int (0 : Int32))] [(.int (1 : Int32))])) tT
          refine XS.goto X45_.here hx rfl (pc0 := 178) (pc' := 182) rfl (Jvm.hb hby at_178) (by decide) (by decide) ?_
          show Steps pP.tables eE below (T45_.setTop (mkF mM 182 #[.val (.long q1), .second, .val (.long q2), .second, .val (.long q3), .second, .val (.long q4), .second, .val (.int p5), .val (.int s1_), .val (.int s2_), .val (.int kd), .val (.long c2), .second, .val (.long d2), .second, .val (.ref b5_), .val .null, .val (.int (0 : Int32))] [(.int (1 : Int32))])) tT
          exact kK
        obtain ⟨fs, hr, hrun, hended, hW, hsame⟩ := X45_.leave (v := some (.int (1 : Int32))) (fun h => by rw [Bd.returns] at h; cases h)
        refine ⟨_, _, ?_, hrun, hended, _, _, rfl, ?_, ⟨_, rfl⟩, hW, hsame.mono (by decide) (by decide)⟩
        · show Steps pP.tables eE below (T45_.setTop (mkF mM 182 #[.val (.long q1), .second, .val (.long q2), .second, .val (.long q3), .second, .val (.long q4), .second, .val (.int p5), .val (.int s1_), .val (.int s2_), .val (.int kd), .val (.long c2), .second, .val (.long d2), .second, .val (.ref b5_), .val .null, .val (.int (0 : Int32))] [(.int (1 : Int32))])) _
          exact retN X45_ hx (t := .boolean) Bd.returns (by simp) (Jvm.hb hby at_182) hr
        · show Q_rm0 Z q1 q2 q3 q4 p5 h0 n0 _ T45_.heap _
          rw [p45__0]
          exact ⟨rfl, N45_⟩
      · refine own_fin (b := T6_.setTop (mkF mM 169 #[.val (.long q1), .second, .val (.long q2), .second, .val (.long q3), .second, .val (.long q4), .second, .val (.int p5), .val (.int s1_), .val (.int s2_), .val (.int kd), .val (.long c2), .second, .val (.long d2), .second, .val (.ref b5_), .val (.ref b5_), .val (.int (1 : Int32))] [(.ref b5_), (.ref b5_)])) (fun tT kK => ?_) ?_
        · show Steps pP.tables eE below (T6_.setTop (mkF mM 146 #[.val (.long q1), .second, .val (.long q2), .second, .val (.long q3), .second, .val (.long q4), .second, .val (.int p5), .val (.int s1_), .val (.int s2_), .val (.int kd), .val (.long c2), .second, .val (.long d2), .second, .val (.ref b5_), .unset, .unset] [(.int (2 : Int32)), (.int kd)])) tT
          refine XS.icmpYes X6_.here hx rfl (pc0 := 146) (pc' := 158) rfl (Jvm.hb hby at_146) rfl (feq (hc146_44_ : ¬ (kd = (2 : Int32)))).2 (by decide) (by decide) ?_
          show Steps pP.tables eE below (T6_.setTop (mkF mM 158 #[.val (.long q1), .second, .val (.long q2), .second, .val (.long q3), .second, .val (.long q4), .second, .val (.int p5), .val (.int s1_), .val (.int s2_), .val (.int kd), .val (.long c2), .second, .val (.long d2), .second, .val (.ref b5_), .unset, .unset] [])) tT
          refine XS.aload X6_.here hx rfl (Jvm.hb hby at_158) rfl rfl ?_
          show Steps pP.tables eE below (T6_.setTop (mkF mM 160 #[.val (.long q1), .second, .val (.long q2), .second, .val (.long q3), .second, .val (.long q4), .second, .val (.int p5), .val (.int s1_), .val (.int s2_), .val (.int kd), .val (.long c2), .second, .val (.long d2), .second, .val (.ref b5_), .unset, .unset] [(.ref b5_)])) tT
          refine XS.astore X6_.here hx rfl (Jvm.hb hby at_160) rfl rfl (l' := #[.val (.long q1), .second, .val (.long q2), .second, .val (.long q3), .second, .val (.long q4), .second, .val (.int p5), .val (.int s1_), .val (.int s2_), .val (.int kd), .val (.long c2), .second, .val (.long d2), .second, .val (.ref b5_), .val (.ref b5_), .unset]) rfl ?_
          show Steps pP.tables eE below (T6_.setTop (mkF mM 162 #[.val (.long q1), .second, .val (.long q2), .second, .val (.long q3), .second, .val (.long q4), .second, .val (.int p5), .val (.int s1_), .val (.int s2_), .val (.int kd), .val (.long c2), .second, .val (.long d2), .second, .val (.ref b5_), .val (.ref b5_), .unset] [])) tT
          refine XS.iconst X6_.here hx rfl (Jvm.hb hby at_162) ?_
          show Steps pP.tables eE below (T6_.setTop (mkF mM 163 #[.val (.long q1), .second, .val (.long q2), .second, .val (.long q3), .second, .val (.long q4), .second, .val (.int p5), .val (.int s1_), .val (.int s2_), .val (.int kd), .val (.long c2), .second, .val (.long d2), .second, .val (.ref b5_), .val (.ref b5_), .unset] [(.int (1 : Int32))])) tT
          refine XS.istore X6_.here hx rfl (Jvm.hb hby at_163) rfl (l' := #[.val (.long q1), .second, .val (.long q2), .second, .val (.long q3), .second, .val (.long q4), .second, .val (.int p5), .val (.int s1_), .val (.int s2_), .val (.int kd), .val (.long c2), .second, .val (.long d2), .second, .val (.ref b5_), .val (.ref b5_), .val (.int (1 : Int32))]) rfl ?_
          show Steps pP.tables eE below (T6_.setTop (mkF mM 165 #[.val (.long q1), .second, .val (.long q2), .second, .val (.long q3), .second, .val (.long q4), .second, .val (.int p5), .val (.int s1_), .val (.int s2_), .val (.int kd), .val (.long c2), .second, .val (.long d2), .second, .val (.ref b5_), .val (.ref b5_), .val (.int (1 : Int32))] [])) tT
          refine XS.aload X6_.here hx rfl (Jvm.hb hby at_165) rfl rfl ?_
          show Steps pP.tables eE below (T6_.setTop (mkF mM 167 #[.val (.long q1), .second, .val (.long q2), .second, .val (.long q3), .second, .val (.long q4), .second, .val (.int p5), .val (.int s1_), .val (.int s2_), .val (.int kd), .val (.long c2), .second, .val (.long d2), .second, .val (.ref b5_), .val (.ref b5_), .val (.int (1 : Int32))] [(.ref b5_)])) tT
          refine XS.aload X6_.here hx rfl (Jvm.hb hby at_167) rfl rfl ?_
          show Steps pP.tables eE below (T6_.setTop (mkF mM 169 #[.val (.long q1), .second, .val (.long q2), .second, .val (.long q3), .second, .val (.long q4), .second, .val (.int p5), .val (.int s1_), .val (.int s2_), .val (.int kd), .val (.long c2), .second, .val (.long d2), .second, .val (.ref b5_), .val (.ref b5_), .val (.int (1 : Int32))] [(.ref b5_), (.ref b5_)])) tT
          exact kK
        obtain ⟨cq46_, kq46_, q46_a, q46_b, q46_c⟩ := isOf hZ rfl p6__1
        obtain ⟨_, _, ⟨T46_, L46_, k46_, n46_⟩, -, X46_, ⟨Lc46_, hQ46_, l46_, y46_, z46_⟩, st46_⟩ := X6_.virtualBack hx (y := (⟨"com/example/epoch/epoch/Hole", "equals", "(Ljava/lang/Object;)Z"⟩ : MethodName)) (z := (⟨"com/example/epoch/epoch/Hole", "equals", "(Ljava/lang/Object;)Z"⟩ : MethodName)) hown (mvT hZ (hw _ (List.mem_of_getElem? (i := 13) rfl))) (mvT hZ (hw _ (List.mem_of_getElem? (i := 14) rfl))) (notFace_of_selects (args := #[]) (mvT hZ (hw _ (List.mem_of_getElem? (i := 16) rfl)))) (mvT hZ (hw _ (List.mem_of_getElem? (i := 16) rfl))) (mvT hZ (hw _ (List.mem_of_getElem? (i := 15) rfl))) (by decide) (backOf (W := 0) (rm_self lL Z a0 hw [] b5_ q1 q2 T6_.heap n0 (Nat.le_trans Z0 K6_.1) p6__1 p6__2 p6__3) hZ (hw _ (List.mem_of_getElem? (i := 17) rfl)) (hw _ (List.mem_of_getElem? (i := 2) rfl)) (by decide) (by decide)) q46_a q46_c (g := (mkF mM 169 #[.val (.long q1), .second, .val (.long q2), .second, .val (.long q3), .second, .val (.long q4), .second, .val (.int p5), .val (.int s1_), .val (.int s2_), .val (.int kd), .val (.long c2), .second, .val (.long d2), .second, .val (.ref b5_), .val (.ref b5_), .val (.int (1 : Int32))] [(.ref b5_), (.ref b5_)])) rfl (by rw [hml]; rfl) (Steps.refl _) (argsL := [(.ref b5_)]) (rest := []) (lenOf own_pd1 rfl) rfl (by show 2 * 0 + _ ≤ _; exact Nat.le_of_eq rfl) (Jvm.hb hby at_169) (fun _ _ => ⟨rfl, rfl, (by decide : 1 + 0 ≤ _), (by decide : 2 + 0 ≤ _)⟩)
        dsimp only [Pt.U, Pt.locs, Pt.cells, Pt.slots] at X46_ l46_ y46_ z46_ st46_ hQ46_
        subst l46_ y46_ z46_
        obtain ⟨rfl, N46_q, p46__0⟩ := hQ46_
        have N46_ := Fr.app N6_ N46_q
        refine own_fin (fun tT kK => st46_.trans kK) ?_
        show own_Fin pP eE below _ (T46_.setTop (mkF mM 172 #[.val (.long q1), .second, .val (.long q2), .second, .val (.long q3), .second, .val (.long q4), .second, .val (.int p5), .val (.int s1_), .val (.int s2_), .val (.int kd), .val (.long c2), .second, .val (.long d2), .second, .val (.ref b5_), .val (.ref b5_), .val (.int (1 : Int32))] [(.int (1 : Int32))]))
        refine own_fin (b := T46_.setTop (mkF mM 182 #[.val (.long q1), .second, .val (.long q2), .second, .val (.long q3), .second, .val (.long q4), .second, .val (.int p5), .val (.int s1_), .val (.int s2_), .val (.int kd), .val (.long c2), .second, .val (.long d2), .second, .val (.ref b5_), .val (.ref b5_), .val (.int (1 : Int32))] [(.int (1 : Int32))])) (fun tT kK => ?_) ?_
        · show Steps pP.tables eE below (T46_.setTop (mkF mM 172 #[.val (.long q1), .second, .val (.long q2), .second, .val (.long q3), .second, .val (.long q4), .second, .val (.int p5), .val (.int s1_), .val (.int s2_), .val (.int kd), .val (.long c2), .second, .val (.long d2), .second, .val (.ref b5_), .val (.ref b5_), .val (.int (1 : Int32))] [(.int (1 : Int32))])) tT
          refine XS.iload X46_.here hx rfl (Jvm.hb hby at_172) rfl ?_
          show Steps pP.tables eE below (T46_.setTop (mkF mM 174 #[.val (.long q1), .second, .val (.long q2), .second, .val (.long q3), .second, .val (.long q4), .second, .val (.int p5), .val (.int s1_), .val (.int s2_), .val (.int kd), .val (.long c2), .second, .val (.long d2), .second, .val (.ref b5_), .val (.ref b5_), .val (.int (1 : Int32))] [(.int (1 : Int32)), (.int (1 : Int32))])) tT
          refine XS.icmpNo X46_.here hx rfl (Jvm.hb hby at_174) rfl (teq ((by decide) : (1 : Int32) = (1 : Int32))).2 ?_
          show Steps pP.tables eE below (T46_.setTop (mkF mM 177 #[.val (.long q1), .second, .val (.long q2), .second, .val (.long q3), .second, .val (.long q4), .second, .val (.int p5), .val (.int s1_), .val (.int s2_), .val (.int kd), .val (.long c2), .second, .val (.long d2), .second, .val (.ref b5_), .val (.ref b5_), .val (.int (1 : Int32))] [])) tT
          refine XS.iconst X46_.here hx rfl (Jvm.hb hby at_177) ?_
          show Steps pP.tables eE below (T46_.setTop (mkF mM 178 #[.val (.long q1), .second, .val (.long q2), .second, .val (.long q3), .second, .val (.long q4), .second, .val (.int p5), .val (.int s1_), .val (.int s2_), .val (.int kd), .val (.long c2), .second, .val (.long d2), .second, .val (.ref b5_), .val (.ref b5_), .val (.int (1 : Int32))] [(.int (1 : Int32))])) tT
          refine XS.goto X46_.here hx rfl (pc0 := 178) (pc' := 182) rfl (Jvm.hb hby at_178) (by decide) (by decide) ?_
          show Steps pP.tables eE below (T46_.setTop (mkF mM 182 #[.val (.long q1), .second, .val (.long q2), .second, .val (.long q3), .second, .val (.long q4), .second, .val (.int p5), .val (.int s1_), .val (.int s2_), .val (.int kd), .val (.long c2), .second, .val (.long d2), .second, .val (.ref b5_), .val (.ref b5_), .val (.int (1 : Int32))] [(.int (1 : Int32))])) tT
          exact kK
        obtain ⟨fs, hr, hrun, hended, hW, hsame⟩ := X46_.leave (v := some (.int (1 : Int32))) (fun h => by rw [Bd.returns] at h; cases h)
        refine ⟨_, _, ?_, hrun, hended, _, _, rfl, ?_, ⟨_, rfl⟩, hW, hsame.mono (by decide) (by decide)⟩
        · show Steps pP.tables eE below (T46_.setTop (mkF mM 182 #[.val (.long q1), .second, .val (.long q2), .second, .val (.long q3), .second, .val (.long q4), .second, .val (.int p5), .val (.int s1_), .val (.int s2_), .val (.int kd), .val (.long c2), .second, .val (.long d2), .second, .val (.ref b5_), .val (.ref b5_), .val (.int (1 : Int32))] [(.int (1 : Int32))])) _
          exact retN X46_ hx (t := .boolean) Bd.returns (by simp) (Jvm.hb hby at_182) hr
        · show Q_rm0 Z q1 q2 q3 q4 p5 h0 n0 _ T46_.heap _
          rw [p46__0]
          exact ⟨rfl, N46_⟩
set_option maxRecDepth 65536 in
set_option maxHeartbeats 40000000 in
theorem comes_1 {Post : Tables → Env → Array Value → State → Outcome → State → Prop} (hpost : ∀ tb e args s v u, (limb_1_1.after args s (.returned v) u = true ∧ limb_1_2.after args s (.returned v) u = true ∧ True) → FrameEnd s (.returned v) u (Jvm.fieldLocs frame_1_writes args s ++ Jvm.arrayLocs frame_1_arrays args s ++ Jvm.staticLocs frame_1_statics s) 16 128 → Post tb e args s (.returned v) u) :
    ArmFor flags0 classFile x code maxLocals ret World_1 tables_1 room_1 Calls_1 rest_1 Pre_1 Post := by
  intro l hfl _ _ p e ha hc hk s m args below hf hA hF happ hP
  obtain ⟨hcalls, hrest, hpre⟩ := hP
  obtain ⟨-, -, -, hnamed, -, -, -, hat⟩ := (Spec.applies_iff hf).mp happ
  obtain ⟨hg, hn⟩ := and_e (Cond.before_iff.mp (show (Jvm.Cond.and given_1 narrow_1).before args s = true from hpre))
  obtain ⟨gg1, gg2⟩ := and_e hg
  obtain ⟨gg3, gg4⟩ := and_e gg2
  obtain ⟨gg5, gg6⟩ := and_e gg4
  obtain ⟨gg7, gg8⟩ := and_e gg6
  obtain ⟨gg9, gg10⟩ := and_e gg8
  obtain ⟨w0, w1, w2, w3, w4, rfl⟩ : ∃ w0 w1 w2 w3 w4 : Value, args = #[w0, w1, w2, w3, w4] := by
    have hs : args.size = 5 := by simpa [Cond.value, given_1] using gg1
    obtain ⟨L⟩ := args
    match L, hs with
    | [w0, w1, w2, w3, w4], _ => exact ⟨w0, w1, w2, w3, w4, rfl⟩
  have hw := fun d (hd : d ∈ tables_1) => atoms_spec (ws := Jvm.Cond.code x code maxLocals ret :: tables_1) hat d (List.mem_cons_of_mem _ hd)
  have hfit : Fit s := fun {y c} hc i hi => by
    obtain ⟨ha, rfl⟩ := Array.getElem?_eq_some_iff.mp hc
    have q := List.all_eq_true.mp ((Array.all_eq_true_iff_forall_mem.mp hF) _ (Array.getElem_mem ha)) i (List.mem_range.mpr hi)
    simpa [Array.getElem?_eq_getElem hi] using q
  obtain ⟨i0, ei0⟩ := isL_v gg3
  obtain rfl : w0 = (.long i0) := Option.some.inj ei0
  obtain ⟨i1, ei1⟩ := isL_v gg5
  obtain rfl : w1 = (.long i1) := Option.some.inj ei1
  obtain ⟨i2, ei2⟩ := isL_v gg7
  obtain rfl : w2 = (.long i2) := Option.some.inj ei2
  obtain ⟨i3, ei3⟩ := isL_v gg9
  obtain rfl : w3 = (.long i3) := Option.some.inj ei3
  obtain ⟨i4, ei4⟩ := is_v gg10
  obtain rfl : w4 = (.int i4) := Option.some.inj ei4
  obtain ⟨n, o, h1, h2, h3, _, L, rfl, ⟨rfl, N⟩, hq⟩ := rm0 l s _ hw tables_1 i0 i1 i2 i3 i4 s.heap s.heap.size (Nat.le_refl _)  p e ha hc hk s m _ below hf ((Spec.applies_iff_loose hf).mp happ).1 ⟨rfl, State.Warmed39.refl s, rfl⟩ trivial
  refine ⟨n, _, h1, h2, h3, hpost _ _ _ _ _ _ ⟨Cond.after_iff.mpr rfl, Cond.after_iff.mpr (eq_i res_at (Term.int_eval (1)) rfl), trivial⟩ ⟨hq.1, hq.2.1, (hq.2.2.sift fun y hy => Or.inr (N y hy)).mono (by decide) (by decide)⟩⟩
theorem main_1_1 : Claimed_1_1 := comes_1 fun _ _ _ _ _ _ h hF => ⟨h.1, hF⟩
theorem main_1_2 : Claimed_1_2 := comes_1 fun _ _ _ _ _ _ h hF => ⟨h.2.1, hF⟩
end Jvm.Pilot.@@N@@
namespace Jvm.Pilot.@@N@@
open Jvm Jvm.ClassFile Sem Op Lib Jvm.Free Jvm.Stand Jvm.Pilot.@@N@@.Jvm.D
/-! MADE BY PROGRAM (witnessworld.py) out of the Statement's table words and the real class files: 11 classes; the members and pool entries that the words name. The judged class is class 1, her method 1. -/
namespace start1
open Jvm.ClassFile
def u (s : String) : CpInfo := .utf8 (stringToUtf16 s)
/-- a pool by its gaps: so many unusable entries, then the entry; so many at the end -/
def gap : Nat → List CpInfo → List CpInfo
  | 0, r => r
  | n + 1, r => .unusable :: gap n r
def poolList (es : List (Nat × CpInfo)) (last : Nat) : List CpInfo := es.foldr (fun e r => gap e.1 (e.2 :: r)) (gap last [])
def pool (es : List (Nat × CpInfo)) (last : Nat) : Array CpInfo := ⟨poolList es last⟩
def fileOf (pool : Array CpInfo) (this : Nat) (attrs : Array Attribute := #[]) (ms : Array MethodInfo := #[]) (fl : Nat := 33) (sup : Nat := 0) (ifs : Array Nat := #[]) (fds : Array FieldInfo := #[]) : ClassFile where
  minorVersion := 0
  majorVersion := 65
  constantPool := pool
  accessFlags := fl
  thisClass := this
  superClass := sup
  interfaces := ifs
  fields := fds
  methods := ms
  attributes := attrs
def plain (name : String) (sup : Option ClassId) : Class where
  name := name
  kind := .ordinary
  loader := none
  accessFlags := 33
  super := sup
  interfaces := #[]
  cf := none
  fields := #[]
  methods := #[]
  instanceTypes := #[]
  staticTypes := #[]
  resolved := #[]
  callSites := []
  init := .initialized
  statics := none
  mirror := none

def pool0 : Array CpInfo := pool [(5, u "<init>"), (0, u "()V"), (1, .class_ 10), (1, u "java/lang/Object")] 113

def k0c0 : Code := { maxStack := 0, maxLocals := 1, code := object_method_1_code, exceptionTable := #[], attributes := #[] }
def k0m0 : Method := { name := "<init>", desc := "()V", sig := { parameters := [], returnType := none }, accessFlags := 1, code := some k0c0 }
/-- java/lang/Object -/
def k0 : Class := { plain "java/lang/Object" none with
  accessFlags := 33
  interfaces := #[]
  cf := some (fileOf pool0 8 #[] #[{ accessFlags := 1, nameIndex := 5, descriptorIndex := 6, attributes := #[] }] 33 0 #[] #[])
  fields := #[]
  methods := #[k0m0]
  instanceTypes := #[]
  staticTypes := #[]
  resolved := Array.replicate 124 none
  statics := none }

def pool1 : Array CpInfo := pool [(2, .class_ 4), (1, u "java/lang/Object"), (0, u "<init>"), (0, u "()V"), (0, .class_ 8), (0, u "com/example/epoch/epoch/Hole"), (0, .methodref 7 10), (0, .nameAndType 5 11), (0, u "(JJ)V"), (0, .class_ 13), (0, u "com/example/epoch/epoch/LogEvent"), (0, .methodref 12 15), (0, .nameAndType 5 16), (0, u "(JJ[B)V"), (0, .methodref 7 18), (0, .nameAndType 19 20), (0, u "equals"), (0, u "(Ljava/lang/Object;)Z"), (0, .class_ 22), (0, u "com/example/epoch/epoch/HoleEqualsPinLaw"), (2, u "law"), (0, u "(JJJJI)Z")] 3

def k1m0 : Method := { name := "<init>", desc := "()V", sig := { parameters := [], returnType := none }, accessFlags := 1, code := none }
def k1c1 : Code := { maxStack := 7, maxLocals := 19, code := code, exceptionTable := #[], attributes := #[] }
def k1m1 : Method := { name := "law", desc := "(JJJJI)Z", sig := { parameters := [.long, .long, .long, .long, .int], returnType := some .boolean }, accessFlags := 9, code := some k1c1 }
/-- com/example/epoch/epoch/HoleEqualsPinLaw -/
def k1 : Class := { plain "com/example/epoch/epoch/HoleEqualsPinLaw" (some 0) with
  accessFlags := 49
  interfaces := #[]
  cf := some (fileOf pool1 21 #[] #[{ accessFlags := 1, nameIndex := 5, descriptorIndex := 6, attributes := #[] }, { accessFlags := 9, nameIndex := 25, descriptorIndex := 26, attributes := #[] }] 49 2 #[] #[])
  fields := #[]
  methods := #[k1m0, k1m1]
  instanceTypes := #[]
  staticTypes := #[]
  resolved := Array.replicate 30 none
  statics := none }

def pool2 : Array CpInfo := pool [(1, .class_ 2), (0, u "com/example/epoch/epoch/Delivery"), (0, .class_ 4), (0, u "java/lang/Object")] 7

/-- com/example/epoch/epoch/Delivery -/
def k2 : Class := { plain "com/example/epoch/epoch/Delivery" (some 0) with
  accessFlags := 1537
  interfaces := #[]
  cf := some (fileOf pool2 1 #[] #[] 1537 3 #[] #[])
  fields := #[]
  methods := #[]
  instanceTypes := #[]
  staticTypes := #[]
  resolved := Array.replicate 12 none
  statics := none }

def pool3 : Array CpInfo := pool [(1, .methodref 2 3), (0, .class_ 4), (0, .nameAndType 5 6), (0, u "java/lang/Object"), (0, u "<init>"), (0, u "()V"), (0, .fieldref 8 9), (0, .class_ 10), (0, .nameAndType 11 12), (0, u "com/example/epoch/epoch/Hole"), (0, u "first"), (0, u "J"), (0, .fieldref 8 14), (0, .nameAndType 15 12), (0, u "last"), (16, .class_ 33), (0, u "com/example/epoch/epoch/Delivery"), (0, u "(JJ)V"), (4, u "equals"), (0, u "(Ljava/lang/Object;)Z")] 22

def k3c0 : Code := { maxStack := 3, maxLocals := 5, code := prog_9_method_1_code, exceptionTable := #[], attributes := #[] }
def k3m0 : Method := { name := "<init>", desc := "(JJ)V", sig := { parameters := [.long, .long], returnType := none }, accessFlags := 0, code := some k3c0 }
def k3c1 : Code := { maxStack := 4, maxLocals := 3, code := prog_9_method_5_code, exceptionTable := #[], attributes := #[] }
def k3m1 : Method := { name := "equals", desc := "(Ljava/lang/Object;)Z", sig := { parameters := [(.object "java/lang/Object")], returnType := some .boolean }, accessFlags := 1, code := some k3c1 }
/-- com/example/epoch/epoch/Hole -/
def k3 : Class := { plain "com/example/epoch/epoch/Hole" (some 0) with
  accessFlags := 49
  interfaces := #[2]
  cf := some (fileOf pool3 8 #[] #[{ accessFlags := 0, nameIndex := 5, descriptorIndex := 34, attributes := #[] }, { accessFlags := 1, nameIndex := 39, descriptorIndex := 40, attributes := #[] }] 49 2 #[32] #[{ accessFlags := 18, nameIndex := 11, descriptorIndex := 12, attributes := #[] }, { accessFlags := 18, nameIndex := 15, descriptorIndex := 12, attributes := #[] }])
  fields := #[{ name := "first", type := .long, accessFlags := 18, slot := 0, constantValue := 0 }, { name := "last", type := .long, accessFlags := 18, slot := 1, constantValue := 0 }]
  methods := #[k3m0, k3m1]
  instanceTypes := #[.long, .long]
  staticTypes := #[]
  resolved := Array.replicate 63 none
  statics := none }

def pool4 : Array CpInfo := pool [(1, .methodref 2 3), (0, .class_ 4), (0, .nameAndType 5 6), (0, u "java/lang/Object"), (0, u "<init>"), (0, u "()V"), (0, .fieldref 8 9), (0, .class_ 10), (0, .nameAndType 11 12), (0, u "com/example/epoch/epoch/LogEvent"), (0, u "sequence"), (0, u "J"), (0, .fieldref 8 14), (0, .nameAndType 15 12), (0, u "epoch"), (0, .fieldref 8 17), (0, .nameAndType 18 19), (0, u "bytes"), (0, u "[B"), (51, .class_ 72), (0, u "com/example/epoch/epoch/Delivery"), (0, u "(JJ[B)V")] 26

def k4c0 : Code := { maxStack := 3, maxLocals := 6, code := prog_15_method_1_code, exceptionTable := #[], attributes := #[] }
def k4m0 : Method := { name := "<init>", desc := "(JJ[B)V", sig := { parameters := [.long, .long, (.array .byte)], returnType := none }, accessFlags := 0, code := some k4c0 }
/-- com/example/epoch/epoch/LogEvent -/
def k4 : Class := { plain "com/example/epoch/epoch/LogEvent" (some 0) with
  accessFlags := 49
  interfaces := #[2]
  cf := some (fileOf pool4 8 #[] #[{ accessFlags := 0, nameIndex := 5, descriptorIndex := 73, attributes := #[] }] 49 2 #[71] #[{ accessFlags := 18, nameIndex := 11, descriptorIndex := 12, attributes := #[] }, { accessFlags := 18, nameIndex := 15, descriptorIndex := 12, attributes := #[] }, { accessFlags := 18, nameIndex := 18, descriptorIndex := 19, attributes := #[] }])
  fields := #[{ name := "sequence", type := .long, accessFlags := 18, slot := 0, constantValue := 0 }, { name := "epoch", type := .long, accessFlags := 18, slot := 1, constantValue := 0 }, { name := "bytes", type := (.array .byte), accessFlags := 18, slot := 2, constantValue := 0 }]
  methods := #[k4m0]
  instanceTypes := #[.long, .long, (.array .byte)]
  staticTypes := #[]
  resolved := Array.replicate 100 none
  statics := none }

def pool5 : Array CpInfo := pool [(1, u "java/lang/Cloneable"), (0, .class_ 1), (0, u "java/lang/Object"), (0, .class_ 3)] 3

/-- java/lang/Cloneable -/
def k5 : Class := { plain "java/lang/Cloneable" (some 0) with
  accessFlags := 1537
  interfaces := #[]
  cf := some (fileOf pool5 2 #[] #[] 1537 4 #[] #[])
  fields := #[]
  methods := #[]
  instanceTypes := #[]
  staticTypes := #[]
  resolved := Array.replicate 8 none
  statics := none }

def pool6 : Array CpInfo := pool [(1, u "java/io/Serializable"), (0, .class_ 1), (0, u "java/lang/Object"), (0, .class_ 3)] 3

/-- java/io/Serializable -/
def k6 : Class := { plain "java/io/Serializable" (some 0) with
  accessFlags := 1537
  interfaces := #[]
  cf := some (fileOf pool6 2 #[] #[] 1537 4 #[] #[])
  fields := #[]
  methods := #[]
  instanceTypes := #[]
  staticTypes := #[]
  resolved := Array.replicate 8 none
  statics := none }

/-- the primitive byte -/
def k7 : Class := { plain "byte" none with kind := .primitive 'B', accessFlags := 0x411 }
/-- [B -/
def k8 : Class := { plain "[B" (some 0) with kind := .array 7 .byte, interfaces := #[5, 6], accessFlags := 1041 }

/-- the primitive int -/
def k9 : Class := { plain "int" none with kind := .primitive 'I', accessFlags := 0x411 }
/-- [I -/
def k10 : Class := { plain "[I" (some 0) with kind := .array 9 .int, interfaces := #[5, 6], accessFlags := 1041 }

def heap : Heap := #[]
def classes : Array Class := #[k0, k1, k2, k3, k4, k5, k6, k7, k8, k9, k10]
def interned : List (Array UInt16 × Addr) := []
def slotsUsed : Nat := 0
def theMethod : MethodId := ⟨1, 1⟩
def args0 : Array Value := #[.long 5, .long 5, .long 5, .long 5, .int 5]
def aboutOver (below : List Frame) : State where
  vm := { classes := classes, interned := interned.toArray }
  heap := heap
  slotsUsed := slotsUsed
  threads := #[{ frames := .invoking theMethod args0 :: below }]
def below0 : List Frame := [.native { method := ⟨0, 0⟩, args := #[] }]
def about1 : State := aboutOver below0
def p0 : Program := .bare "" "" ""
def e0 : Env := launch0.env 0 0 0
theorem w_frames : about1.frames = Frame.invoking theMethod args0 :: below0 := rfl
set_option maxRecDepth 65536 in
theorem w_args : argsFit about1.vm theMethod args0 = true := by decide +kernel
set_option maxRecDepth 65536 in
theorem w_heap : heapFits about1 = true := by decide +kernel
set_option maxRecDepth 65536 in
theorem w_runnable : about1.curStatus? = some .runnable := by decide +kernel
set_option maxRecDepth 65536 in
theorem w_alone : about1.alone = true := by decide +kernel
set_option maxRecDepth 65536 in
theorem w_named : about1.methodNamed? x = some theMethod := by decide +kernel
set_option maxRecDepth 65536 in
theorem w_hears : about1.hears theMethod below0 = true := by decide +kernel
set_option maxRecDepth 65536 in
theorem w_ripe : about1.ripe theMethod args0 below0 = true := by decide +kernel
theorem w_running : about1.status = .running := rfl
set_option maxRecDepth 65536 in
theorem w_room : about1.hasRoom e0.platform room_1 = true :=
  launch0.hasRoom_least _ room_1 (by decide +kernel) (by decide +kernel) (by decide +kernel) (by decide +kernel) (by decide +kernel) (by decide +kernel)
theorem allAtoms_all (ts : List Jvm.Cond) (a : Array Jvm.Value) (st : Jvm.State) : (allAtoms ts).before a st = ts.all (fun c => c.before a st) := by
  induction ts with
  | nil => rfl
  | cons c t ih =>
    show (Jvm.Cond.and c (allAtoms t)).before a st = _
    rw [Jvm.Cond.before_and, ih, List.all_cons]
def words1 : List Jvm.Cond := Jvm.Cond.code x code maxLocals ret :: tables_1
/-- a 'code' word, met by the world's own term for the bytes: nothing is compared byte by byte -/
theorem code_word {y : MethodName} {bytes : ByteArray} {mx : Nat} {rt : Option FieldType} {a : Array Value} {s : State} {m : MethodId} {meth : Method} {c : Code} (h1 : s.methodNamed? y = some m) (h2 : s.vm.method? m = some meth) (h3 : meth.code = some c) (h4 : c.code = bytes)
    (h5 : (c.maxLocals == mx && c.exceptionTable.isEmpty && decide (c.maxStack ≤ mostOperands) && decide (meth.sig.returnType = rt) && !meth.locks && decide (parseMethodDescriptor y.desc = some meth.sig)) = true) : (Jvm.Cond.code y bytes mx rt).before a s = true := by
  simp only [Bool.and_eq_true, beq_iff_eq, Bool.not_eq_true', decide_eq_true_eq] at h5
  obtain ⟨⟨⟨⟨⟨g1, g2⟩, g3⟩, g4⟩, g5⟩, g6⟩ := h5
  simp [Cond.before, Cond.holds, Cond.value, h1, h2, h3, h4, g1, g2, g3, g4, g5, g6]
def isCode : Jvm.Cond → Bool
  | .code _ _ _ _ => true
  | _ => false
theorem all_split {L : List Jvm.Cond} {P : Jvm.Cond → Bool} (h1 : L.all (fun c => isCode c || P c) = true) (h2 : ∀ c ∈ L.filter isCode, P c = true) : L.all P = true := by
  refine List.all_eq_true.mpr fun c hc => ?_
  have h := List.all_eq_true.mp h1 c hc
  rcases Bool.eq_false_or_eq_true (isCode c) with hi | hi
  · exact h2 c (List.mem_filter.mpr ⟨hc, hi⟩)
  · simpa [hi] using h
set_option maxRecDepth 65536 in
theorem w_c0 : (Jvm.Cond.code x code maxLocals ret).before args0 about1 = true := code_word (m := ⟨1, 1⟩) (meth := k1m1) (c := k1c1) (by decide +kernel) rfl rfl rfl (by decide +kernel)
set_option maxRecDepth 65536 in
theorem w_c1 : (Jvm.Cond.code ({ cls := "com/example/epoch/epoch/Hole", name := "<init>", desc := "(JJ)V" } : Jvm.MethodName) prog_9_method_1_code (5 : Nat) (Option.none : Option Jvm.ClassFile.FieldType)).before args0 about1 = true := code_word (m := ⟨3, 0⟩) (meth := k3m0) (c := k3c0) (by decide +kernel) rfl rfl rfl (by decide +kernel)
set_option maxRecDepth 65536 in
theorem w_c2 : (Jvm.Cond.code ({ cls := "java/lang/Object", name := "<init>", desc := "()V" } : Jvm.MethodName) object_method_1_code (1 : Nat) (Option.none : Option Jvm.ClassFile.FieldType)).before args0 about1 = true := code_word (m := ⟨0, 0⟩) (meth := k0m0) (c := k0c0) (by decide +kernel) rfl rfl rfl (by decide +kernel)
set_option maxRecDepth 65536 in
theorem w_c3 : (Jvm.Cond.code ({ cls := "com/example/epoch/epoch/Hole", name := "equals", desc := "(Ljava/lang/Object;)Z" } : Jvm.MethodName) prog_9_method_5_code (3 : Nat) (Option.some Jvm.ClassFile.FieldType.boolean)).before args0 about1 = true := code_word (m := ⟨3, 1⟩) (meth := k3m1) (c := k3c1) (by decide +kernel) rfl rfl rfl (by decide +kernel)
set_option maxRecDepth 65536 in
theorem w_c4 : (Jvm.Cond.code ({ cls := "com/example/epoch/epoch/LogEvent", name := "<init>", desc := "(JJ[B)V" } : Jvm.MethodName) prog_15_method_1_code (6 : Nat) (Option.none : Option Jvm.ClassFile.FieldType)).before args0 about1 = true := code_word (m := ⟨4, 0⟩) (meth := k4m0) (c := k4c0) (by decide +kernel) rfl rfl rfl (by decide +kernel)
def codes1 : List Jvm.Cond := [Jvm.Cond.code x code maxLocals ret, Jvm.Cond.code ({ cls := "com/example/epoch/epoch/Hole", name := "<init>", desc := "(JJ)V" } : Jvm.MethodName) prog_9_method_1_code (5 : Nat) (Option.none : Option Jvm.ClassFile.FieldType), Jvm.Cond.code ({ cls := "java/lang/Object", name := "<init>", desc := "()V" } : Jvm.MethodName) object_method_1_code (1 : Nat) (Option.none : Option Jvm.ClassFile.FieldType), Jvm.Cond.code ({ cls := "com/example/epoch/epoch/Hole", name := "equals", desc := "(Ljava/lang/Object;)Z" } : Jvm.MethodName) prog_9_method_5_code (3 : Nat) (Option.some Jvm.ClassFile.FieldType.boolean), Jvm.Cond.code ({ cls := "com/example/epoch/epoch/LogEvent", name := "<init>", desc := "(JJ[B)V" } : Jvm.MethodName) prog_15_method_1_code (6 : Nat) (Option.none : Option Jvm.ClassFile.FieldType)]
set_option maxRecDepth 65536 in
theorem codes_eq : words1.filter isCode = codes1 := rfl
theorem w_codes : ∀ c ∈ words1.filter isCode, c.before args0 about1 = true := by
  rw [codes_eq]
  intro c hc
  simp only [codes1, List.mem_cons, List.not_mem_nil, or_false] at hc
  rcases hc with rfl | rfl | rfl | rfl | rfl
  · exact w_c0
  · exact w_c1
  · exact w_c2
  · exact w_c3
  · exact w_c4
set_option maxRecDepth 65536 in
theorem w_t1 : (words1.take 24).all (fun c => isCode c || c.before args0 about1) = true := by decide +kernel
set_option maxRecDepth 65536 in
theorem w_t2 : (words1.drop 24).all (fun c => isCode c || c.before args0 about1) = true := by decide +kernel
theorem w_tables : (allAtoms (Jvm.Cond.code x code maxLocals ret :: tables_1)).before args0 about1 = true := by
  rw [allAtoms_all]
  show words1.all (fun c => c.before args0 about1) = true
  refine all_split ?_ w_codes
  rw [← List.take_append_drop 24 words1, List.all_append, w_t1, w_t2]
  rfl
set_option maxRecDepth 65536 in
theorem w_case : (Jvm.Cond.and given_1 narrow_1).before args0 about1 = true := by decide +kernel
theorem w_applies : (headSpec (Jvm.Cond.code x code maxLocals ret :: tables_1) room_1).applies x e0.platform about1 = true :=
  (Spec.applies_iff w_frames).mpr ⟨w_running, w_runnable, w_alone, w_named, w_hears, w_ripe, w_room, w_tables⟩
theorem atStart : AtStart classFile x code maxLocals ret World_1 tables_1 room_1 Calls_1 rest_1 Pre_1 launch0 p0 e0 about1 theMethod args0 below0 :=
  ⟨lists_1, trivial, launch0.admits_env _ _ _, launch0.least_env, fairChoices_fair.cas, fairChoices_fair.clock, w_frames, w_args, w_heap, w_applies, trivial, trivial, w_case⟩
end start1
theorem witness_1 : WitnessClaimed_1 := ⟨start1.p0, start1.e0, start1.about1, start1.theMethod, start1.args0, start1.below0, start1.atStart⟩
end Jvm.Pilot.@@N@@
