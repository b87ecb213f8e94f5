import JvmDerived
import JvmDerived.Pilot.@@N@@Statement
import JvmDerived.Pilot.@@N@@Code
set_option linter.unusedVariables false
set_option linter.unusedSimpArgs false
namespace Jvm.Pilot.@@N@@
open Jvm Jvm.ClassFile Sem Op Lib Jvm.Free Jvm.Stand Jvm.LawKit Jvm.RoadKit Bundle Jvm.Pilot.@@N@@.Jvm.D
def own_Fin (p : Program) (e : Env) (below : List Frame) (P : State → Outcome → Prop) (a : State) : Prop := ∃ t o, Steps p.tables e below a t ∧ t.status = .running ∧ Ended t below o ∧ P t o
theorem own_fin {p : Program} {e : Env} {below : List Frame} {P : State → Outcome → Prop} {a b : State} (k : ∀ t, Steps p.tables e below b t → Steps p.tables e below a t) (h : own_Fin p e below P b) : own_Fin p e below P a := by
  obtain ⟨t, o, s, r⟩ := h
  exact ⟨t, o, k t s, r⟩
theorem own_rw {T : State} {h : Heap} {a : Addr} {c : Cell} (e : T.heap = h) (q : h[a]? = some c) : T.heap[a]? = some c := by rw [e]; exact q
theorem own_StaKeep {Z : State} {h : Heap} {C n d : String} {v : Value} {n0 : Nat} (O : Old Z n0 h) (F : Sta Z Z.heap C n d v) : Sta Z h C n d v := F.ext O.2

def own_sx (k : Nat) (z : Int64) : Int64 := ⟨⟨z.toBitVec ^^^ (z.toBitVec >>> k)⟩⟩
def own_sy (j k : Nat) (z : Int64) : Int64 := ⟨⟨z.toBitVec ^^^ (z.toBitVec >>> j) ^^^ (z.toBitVec >>> k)⟩⟩
theorem own_ush (z : Int64) (q : Int32) (k : Nat) (hk : q.toBitVec.toNat % 64 = k) : ((z.toUInt64 >>> (q &&& 0x3f).toInt64.toUInt64).toInt64).toBitVec = z.toBitVec >>> k := by
  obtain ⟨h1, h2⟩ := sm64 q k hk
  have h3 : ((q &&& 0x3f).toInt64.toUInt64).toBitVec = BitVec.ofNat 64 k := h1
  show (z.toUInt64 >>> (q &&& 0x3f).toInt64.toUInt64).toBitVec = _
  rw [UInt64.toBitVec_shiftRight, h3]
  show z.toBitVec >>> (BitVec.ofNat 64 k % 64#64) = _
  have h4 : (BitVec.ofNat 64 k % 64#64).toNat = k := by simp; omega
  rw [BitVec.ushiftRight_eq', h4]
theorem own_sx_eq (z : Int64) (q : Int32) (k : Nat) (hk : q.toBitVec.toNat % 64 = k) : (z ^^^ ((z.toUInt64 >>> (q &&& 0x3f).toInt64.toUInt64).toInt64)) = own_sx k z := by
  apply Int64.toBitVec_inj.mp
  rw [Int64.toBitVec_xor, own_ush z q k hk]; rfl
theorem own_sy_eq (z : Int64) (q r : Int32) (j k : Nat) (hj : q.toBitVec.toNat % 64 = j) (hk : r.toBitVec.toNat % 64 = k) : ((z ^^^ ((z.toUInt64 >>> (q &&& 0x3f).toInt64.toUInt64).toInt64)) ^^^ ((z.toUInt64 >>> (r &&& 0x3f).toInt64.toUInt64).toInt64)) = own_sy j k z := by
  apply Int64.toBitVec_inj.mp
  rw [Int64.toBitVec_xor, Int64.toBitVec_xor, own_ush z q j hj, own_ush z r k hk]; rfl
theorem own_sysx (z : Int64) (j : Nat) (h : 64 ≤ 3 * j) : own_sy j (j + j) (own_sx j z) = z := by
  apply Int64.toBitVec_inj.mp
  show (z.toBitVec ^^^ (z.toBitVec >>> j)) ^^^ ((z.toBitVec ^^^ (z.toBitVec >>> j)) >>> j) ^^^ ((z.toBitVec ^^^ (z.toBitVec >>> j)) >>> (j + j)) = z.toBitVec
  generalize z.toBitVec = b
  have h0 : b >>> (j + j + j) = 0#64 := by
    apply BitVec.eq_of_toNat_eq
    rw [BitVec.toNat_ushiftRight, Nat.shiftRight_eq_div_pow]
    have hb := b.isLt
    have hp : 2 ^ 64 ≤ 2 ^ (j + j + j) := Nat.pow_le_pow_right (by decide) (by omega)
    rw [Nat.div_eq_of_lt (by omega)]; rfl
  rw [BitVec.ushiftRight_xor_distrib, BitVec.ushiftRight_xor_distrib, ← BitVec.shiftRight_add, ← BitVec.shiftRight_add, ← Nat.add_assoc, h0]
  generalize b >>> j = c
  generalize b >>> (j + j) = d
  have e1 : d ^^^ 0#64 = d := by simp
  rw [e1, BitVec.xor_assoc b c, ← BitVec.xor_assoc c c d, BitVec.xor_self, BitVec.zero_xor, BitVec.xor_assoc, BitVec.xor_self, BitVec.xor_zero]
def own_nr (c x : Int64) : Int64 := x * ((2 : Int64) - c * x)
def own_inv (c : Int64) : Int64 := own_nr c (own_nr c (own_nr c (own_nr c (own_nr c c))))
def own_mix (z : Int64) : Int64 := own_sx 31 (own_sx 27 (own_sx 30 z * (-4658895280553007687 : Int64)) * (-7723592293110705685 : Int64))
def own_unmix (r : Int64) : Int64 := own_sy 30 60 (own_sy 27 54 (own_sy 31 62 r * own_inv (-7723592293110705685 : Int64)) * own_inv (-4658895280553007687 : Int64))
theorem own_i1 : (-4658895280553007687 : Int64) * own_inv (-4658895280553007687 : Int64) = (1 : Int64) := by decide +kernel
theorem own_i2 : (-7723592293110705685 : Int64) * own_inv (-7723592293110705685 : Int64) = (1 : Int64) := by decide +kernel
theorem own_un (z : Int64) : own_unmix (own_mix z) = z := by
  unfold own_unmix own_mix
  rw [own_sysx _ 31 (by decide), Int64.mul_assoc, own_i2, Int64.mul_one, own_sysx _ 27 (by decide), Int64.mul_assoc, own_i1, Int64.mul_one, own_sysx _ 30 (by decide)]
theorem own_d1_0 : decode prog_48_method_1_code 0 = .ok (.aload_n 0, 1) := by decide +kernel
theorem own_d1_1 : decode prog_48_method_1_code 1 = .ok (.invokespecial 1, 3) := by decide +kernel
theorem own_d1_4 : decode prog_48_method_1_code 4 = .ok (.aload_n 0, 1) := by decide +kernel
theorem own_d1_5 : decode prog_48_method_1_code 5 = .ok (.lload_n 1, 1) := by decide +kernel
theorem own_d1_6 : decode prog_48_method_1_code 6 = .ok (.putfield 7, 3) := by decide +kernel
theorem own_d1_9 : decode prog_48_method_1_code 9 = .ok (.return_, 1) := by decide +kernel
theorem own_pn_com_example_chains_to_rank_chainstorank_graph_SplitMix64 : plainName "com/example/chains_to_rank/chainstorank/graph/SplitMix64" = true := by first | (simp [plainName, overriddenIn]; done) | decide +kernel
theorem own_ef_rm_init (mM : MethodId) (x0 : Addr) (x1 : Int64) : entryFrame mM #[(.ref x0), (.long x1)] 3 = mkF mM 0 #[.val (.ref x0), .val (.long x1), .second] [] := by first | (simp [entryFrame, mkF, argsToLocals, Value.category]; done) | rfl
def Q_rm_init (Z : State) (a : Addr) (q : Int64) (h0 : Heap) (n0 : Nat) (vV : Option Value) (hH : Heap) (lA : List Loc) : Prop := vV = none ∧ Fr n0 lA ∧ (Keep h0 hH [a]) ∧ (Exa Z hH a "com/example/chains_to_rank/chainstorank/graph/SplitMix64") ∧ (Fld Z hH a "com/example/chains_to_rank/chainstorank/graph/SplitMix64" "state" "J" (.long q))
set_option maxRecDepth 65536 in
set_option maxHeartbeats 40000000 in
theorem rm_init (lL : Launch) (Z : State) (a0 : Array Value) (hw : ∀ d ∈ tables_1, d.before a0 Z = true) (ws : List Jvm.Cond) (a : Addr) (q : Int64) (h0 : Heap) (n0 : Nat) (Z0 : n0 ≤ h0.size) (Ea : Exa Z h0 a "com/example/chains_to_rank/chainstorank/graph/SplitMix64") (Fa : Fld Z h0 a "com/example/chains_to_rank/chainstorank/graph/SplitMix64" "state" "J" (.long (0 : Int64))) (ga : n0 ≤ a) :
    MetFree lL (⟨"com/example/chains_to_rank/chainstorank/graph/SplitMix64", "<init>", "(J)V"⟩ : MethodName) (head1 (Jvm.Cond.code (⟨"com/example/chains_to_rank/chainstorank/graph/SplitMix64", "<init>", "(J)V"⟩ : MethodName) prog_48_method_1_code 3 none :: ws) ({ frames := 1, cells := 0, slots := 0, locals := 12 } : Room)) (fun aA uU => aA = #[(.ref a), (.long q)] ∧ Z.Warmed39 uU.vm ∧ uU.heap = h0) (fun _ _ _ _ _ => True) (fun _ uU oO uU' => ∃ vV lA, oO = .returned vV ∧ Q_rm_init Z a q h0 n0 vV uU'.heap lA ∧ FrameEnd uU oO uU' lA ({ frames := 1, cells := 0, slots := 0, locals := 12 } : Room).cells ({ frames := 1, cells := 0, slots := 0, locals := 12 } : Room).slots) := by
  refine MetFree.of_bodySF (plainFor_of_name own_pn_com_example_chains_to_rank_chainstorank_graph_SplitMix64) hisR ?_
  intro pP eE sS mM args below meth cC s₁ Bd hml0 hP hK
  obtain ⟨rfl, hZ, hh⟩ := hP
  have hx := Bd.exec
  have hby := Bd.bytes
  have hml : cC.maxLocals = 3 := hml0
  have hown : sS.vm.findClass "com/example/chains_to_rank/chainstorank/graph/SplitMix64" = some mM.cls := findClass_of_methodNamed Bd.named
  have hnm := (name_of_methodNamed Bd.named Bd.method).1
  have X0 : Stand pP lL eE ({ frames := 1, cells := 0, slots := 0, locals := 12 } : Room) sS mM #[(.ref a), (.long q)] below meth cC s₁ [] 0 0 := Stand.of_body Bd
  have e0 : s₁.heap = h0 := by rw [← hh, Bd.state]; rfl
  have N0 := Fr.nil n0
  have K0 := Keep.refl h0 [a]
  show own_Fin pP eE below (fun tT oO => ∃ vV lA, oO = .returned vV ∧ Q_rm_init Z a q h0 n0 vV tT.heap lA ∧ FrameEnd sS oO tT lA ({ frames := 1, cells := 0, slots := 0, locals := 12 } : Room).cells ({ frames := 1, cells := 0, slots := 0, locals := 12 } : Room).slots) (s₁.setTop (entryFrame mM #[(.ref a), (.long q)] 3))
  refine own_fin (b := s₁.setTop (mkF mM 0 #[.val (.ref a), .val (.long q), .second] [])) (fun tT kK => castTop (own_ef_rm_init mM a q) kK) ?_
  refine own_fin (b := s₁.setTop (mkF mM 1 #[.val (.ref a), .val (.long q), .second] [(.ref a)])) (fun tT kK => ?_) ?_
  · show Steps pP.tables eE below (s₁.setTop (mkF mM 0 #[.val (.ref a), .val (.long q), .second] [])) tT
    refine XS.aloadN X0.here hx rfl (Jvm.hb hby own_d1_0) rfl rfl ?_
    show Steps pP.tables eE below (s₁.setTop (mkF mM 1 #[.val (.ref a), .val (.long q), .second] [(.ref a)])) tT
    exact kK
  obtain ⟨T1_, X1_, e1_, st1_⟩ := initO X0 hx hZ hown (hw _ (List.mem_of_getElem? (i := 6) rfl)) (hw _ (List.mem_of_getElem? (i := 7) rfl)) (hw _ (List.mem_of_getElem? (i := 8) rfl)) e0 (g := (mkF mM 1 #[.val (.ref a), .val (.long q), .second] [(.ref a)])) rfl (by rw [hml]; rfl) rfl (Jvm.hb hby own_d1_1) (by decide) (W := 0) (by show 2 * 0 + _ ≤ _; exact Nat.le_of_eq rfl) (by decide)
  refine own_fin st1_ ?_
  show own_Fin pP eE below _ (T1_.setTop (mkF mM 4 #[.val (.ref a), .val (.long q), .second] []))
  refine own_fin (b := T1_.setTop (mkF mM 6 #[.val (.ref a), .val (.long q), .second] [(.long q), (.ref a)])) (fun tT kK => ?_) ?_
  · show Steps pP.tables eE below (T1_.setTop (mkF mM 4 #[.val (.ref a), .val (.long q), .second] [])) tT
    refine XS.aloadN X1_.here hx rfl (Jvm.hb hby own_d1_4) rfl rfl ?_
    show Steps pP.tables eE below (T1_.setTop (mkF mM 5 #[.val (.ref a), .val (.long q), .second] [(.ref a)])) tT
    refine XS.lloadN X1_.here hx rfl (Jvm.hb hby own_d1_5) rfl ?_
    show Steps pP.tables eE below (T1_.setTop (mkF mM 6 #[.val (.ref a), .val (.long q), .second] [(.long q), (.ref a)])) tT
    exact kK
  obtain ⟨T2_, h2_, X2_, e2_, W2_, st2_⟩ := putF X1_ hx hZ hown (host := "") (Or.inl (hw _ (List.mem_of_getElem? (i := 9) rfl))) Via.refl e1_ Fa Ea (Or.inl (hw _ (List.mem_of_getElem? (i := 10) rfl))) (hw _ (List.mem_of_getElem? (i := 1) rfl)) (ty := .long) (by decide) rfl rfl (g := (mkF mM 6 #[.val (.ref a), .val (.long q), .second] [(.long q), (.ref a)])) rfl rfl (Jvm.hb hby own_d1_6)
  have Fw2_ := Fa.same W2_
  have fc3_ := Ea.wr W2_
  have K2_ := K0.wr W2_ (Or.inl (List.mem_of_getElem? (i := 0) rfl))
  have N2_ := Fr.snoc X2_ N0 ga
  refine own_fin st2_ ?_
  show own_Fin pP eE below _ (T2_.setTop (mkF mM 9 #[.val (.ref a), .val (.long q), .second] []))
  obtain ⟨fs, hr, hrun, hended, hW, hsame⟩ := X2_.leave (v := none) (fun _ => rfl)
  refine ⟨_, _, ?_, hrun, hended, _, _, rfl, ?_, ⟨_, rfl⟩, hW, hsame.mono (by decide) (by decide)⟩
  · show Steps pP.tables eE below (T2_.setTop (mkF mM 9 #[.val (.ref a), .val (.long q), .second] [])) _
    exact X2_.returnOut hx Bd.returns (Jvm.hb hby own_d1_9) hr
  · show Q_rm_init Z a q h0 n0 _ T2_.heap _
    rw [e2_]
    exact ⟨rfl, N2_, K2_, fc3_, Fw2_⟩
theorem own_d3_0 : decode prog_48_method_3_code 0 = .ok (.aload_n 0, 1) := by decide +kernel
theorem own_d3_1 : decode prog_48_method_3_code 1 = .ok (.dup, 1) := by decide +kernel
theorem own_d3_2 : decode prog_48_method_3_code 2 = .ok (.getfield 7, 3) := by decide +kernel
theorem own_d3_5 : decode prog_48_method_3_code 5 = .ok (.ldc2_w 22, 3) := by decide +kernel
theorem own_d3_8 : decode prog_48_method_3_code 8 = .ok (.ladd, 1) := by decide +kernel
theorem own_d3_9 : decode prog_48_method_3_code 9 = .ok (.putfield 7, 3) := by decide +kernel
theorem own_d3_12 : decode prog_48_method_3_code 12 = .ok (.aload_n 0, 1) := by decide +kernel
theorem own_d3_13 : decode prog_48_method_3_code 13 = .ok (.getfield 7, 3) := by decide +kernel
theorem own_d3_16 : decode prog_48_method_3_code 16 = .ok (.lstore_n 1, 1) := by decide +kernel
theorem own_d3_17 : decode prog_48_method_3_code 17 = .ok (.lload_n 1, 1) := by decide +kernel
theorem own_d3_18 : decode prog_48_method_3_code 18 = .ok (.lload_n 1, 1) := by decide +kernel
theorem own_d3_19 : decode prog_48_method_3_code 19 = .ok (.bipush 30, 2) := by decide +kernel
theorem own_d3_21 : decode prog_48_method_3_code 21 = .ok (.lushr, 1) := by decide +kernel
theorem own_d3_22 : decode prog_48_method_3_code 22 = .ok (.lxor, 1) := by decide +kernel
theorem own_d3_23 : decode prog_48_method_3_code 23 = .ok (.ldc2_w 31, 3) := by decide +kernel
theorem own_d3_26 : decode prog_48_method_3_code 26 = .ok (.lmul, 1) := by decide +kernel
theorem own_d3_27 : decode prog_48_method_3_code 27 = .ok (.lstore_n 1, 1) := by decide +kernel
theorem own_d3_28 : decode prog_48_method_3_code 28 = .ok (.lload_n 1, 1) := by decide +kernel
theorem own_d3_29 : decode prog_48_method_3_code 29 = .ok (.lload_n 1, 1) := by decide +kernel
theorem own_d3_30 : decode prog_48_method_3_code 30 = .ok (.bipush 27, 2) := by decide +kernel
theorem own_d3_32 : decode prog_48_method_3_code 32 = .ok (.lushr, 1) := by decide +kernel
theorem own_d3_33 : decode prog_48_method_3_code 33 = .ok (.lxor, 1) := by decide +kernel
theorem own_d3_34 : decode prog_48_method_3_code 34 = .ok (.ldc2_w 33, 3) := by decide +kernel
theorem own_d3_37 : decode prog_48_method_3_code 37 = .ok (.lmul, 1) := by decide +kernel
theorem own_d3_38 : decode prog_48_method_3_code 38 = .ok (.lstore_n 1, 1) := by decide +kernel
theorem own_d3_39 : decode prog_48_method_3_code 39 = .ok (.lload_n 1, 1) := by decide +kernel
theorem own_d3_40 : decode prog_48_method_3_code 40 = .ok (.lload_n 1, 1) := by decide +kernel
theorem own_d3_41 : decode prog_48_method_3_code 41 = .ok (.bipush 31, 2) := by decide +kernel
theorem own_d3_43 : decode prog_48_method_3_code 43 = .ok (.lushr, 1) := by decide +kernel
theorem own_d3_44 : decode prog_48_method_3_code 44 = .ok (.lxor, 1) := by decide +kernel
theorem own_d3_45 : decode prog_48_method_3_code 45 = .ok (.lreturn, 1) := by decide +kernel
theorem own_ef_rm_next (mM : MethodId) (x0 : Addr) : entryFrame mM #[(.ref x0)] 3 = mkF mM 0 #[.val (.ref x0), .unset, .unset] [] := by first | (simp [entryFrame, mkF, argsToLocals, Value.category]; done) | rfl
def Q_rm_next (Z : State) (a : Addr) (q : Int64) (h0 : Heap) (n0 : Nat) (vV : Option Value) (hH : Heap) (lA : List Loc) : Prop := vV = some (.long (own_mix (q + (-7046029254386353131 : Int64)))) ∧ Fr n0 lA ∧ (Keep h0 hH [a]) ∧ (Exa Z hH a "com/example/chains_to_rank/chainstorank/graph/SplitMix64") ∧ (Fld Z hH a "com/example/chains_to_rank/chainstorank/graph/SplitMix64" "state" "J" (.long (q + (-7046029254386353131 : Int64))))
set_option maxRecDepth 65536 in
set_option maxHeartbeats 40000000 in
theorem rm_next (lL : Launch) (Z : State) (a0 : Array Value) (hw : ∀ d ∈ tables_1, d.before a0 Z = true) (ws : List Jvm.Cond) (a : Addr) (q : Int64) (h0 : Heap) (n0 : Nat) (Z0 : n0 ≤ h0.size) (Ea : Exa Z h0 a "com/example/chains_to_rank/chainstorank/graph/SplitMix64") (Fa : Fld Z h0 a "com/example/chains_to_rank/chainstorank/graph/SplitMix64" "state" "J" (.long q)) (ga : n0 ≤ a) :
    MetFree lL (⟨"com/example/chains_to_rank/chainstorank/graph/SplitMix64", "nextLong", "()J"⟩ : MethodName) (head1 (Jvm.Cond.code (⟨"com/example/chains_to_rank/chainstorank/graph/SplitMix64", "nextLong", "()J"⟩ : MethodName) prog_48_method_3_code 3 (some .long) :: ws) ({ frames := 0, cells := 0, slots := 0, locals := 0 } : Room)) (fun aA uU => aA = #[(.ref a)] ∧ Z.Warmed39 uU.vm ∧ uU.heap = h0) (fun _ _ _ _ _ => True) (fun _ uU oO uU' => ∃ vV lA, oO = .returned vV ∧ Q_rm_next Z a q h0 n0 vV uU'.heap lA ∧ FrameEnd uU oO uU' lA ({ frames := 0, cells := 0, slots := 0, locals := 0 } : Room).cells ({ frames := 0, cells := 0, slots := 0, locals := 0 } : Room).slots) := by
  refine MetFree.of_bodySF (plainFor_of_name own_pn_com_example_chains_to_rank_chainstorank_graph_SplitMix64) hisR ?_
  intro pP eE sS mM args below meth cC s₁ Bd hml0 hP hK
  obtain ⟨rfl, hZ, hh⟩ := hP
  have hx := Bd.exec
  have hby := Bd.bytes
  have hml : cC.maxLocals = 3 := hml0
  have hown : sS.vm.findClass "com/example/chains_to_rank/chainstorank/graph/SplitMix64" = some mM.cls := findClass_of_methodNamed Bd.named
  have hnm := (name_of_methodNamed Bd.named Bd.method).1
  have X0 : Stand pP lL eE ({ frames := 0, cells := 0, slots := 0, locals := 0 } : Room) sS mM #[(.ref a)] below meth cC s₁ [] 0 0 := Stand.of_body Bd
  have e0 : s₁.heap = h0 := by rw [← hh, Bd.state]; rfl
  have N0 := Fr.nil n0
  have K0 := Keep.refl h0 [a]
  show own_Fin pP eE below (fun tT oO => ∃ vV lA, oO = .returned vV ∧ Q_rm_next Z a q h0 n0 vV tT.heap lA ∧ FrameEnd sS oO tT lA ({ frames := 0, cells := 0, slots := 0, locals := 0 } : Room).cells ({ frames := 0, cells := 0, slots := 0, locals := 0 } : Room).slots) (s₁.setTop (entryFrame mM #[(.ref a)] 3))
  refine own_fin (b := s₁.setTop (mkF mM 0 #[.val (.ref a), .unset, .unset] [])) (fun tT kK => castTop (own_ef_rm_next mM a) kK) ?_
  refine own_fin (b := s₁.setTop (mkF mM 2 #[.val (.ref a), .unset, .unset] [(.ref a), (.ref a)])) (fun tT kK => ?_) ?_
  · show Steps pP.tables eE below (s₁.setTop (mkF mM 0 #[.val (.ref a), .unset, .unset] [])) tT
    refine XS.aloadN X0.here hx rfl (Jvm.hb hby own_d3_0) rfl rfl ?_
    show Steps pP.tables eE below (s₁.setTop (mkF mM 1 #[.val (.ref a), .unset, .unset] [(.ref a)])) tT
    refine XS.dup X0.here hx rfl (Jvm.hb hby own_d3_1) rfl rfl ?_
    show Steps pP.tables eE below (s₁.setTop (mkF mM 2 #[.val (.ref a), .unset, .unset] [(.ref a), (.ref a)])) tT
    exact kK
  obtain ⟨T1_, X1_, e1_, st1_⟩ := getF X0 hx hZ hown (host := "") (Or.inl (hw _ (List.mem_of_getElem? (i := 9) rfl))) Via.refl e0 Fa (g := (mkF mM 2 #[.val (.ref a), .unset, .unset] [(.ref a), (.ref a)])) rfl rfl (Jvm.hb hby own_d3_2)
  refine own_fin st1_ ?_
  show own_Fin pP eE below _ (T1_.setTop (mkF mM 5 #[.val (.ref a), .unset, .unset] [(.long q), (.ref a)]))
  refine own_fin (b := T1_.setTop (mkF mM 9 #[.val (.ref a), .unset, .unset] [(.long (q + (-7046029254386353131 : Int64))), (.ref a)])) (fun tT kK => ?_) ?_
  · show Steps pP.tables eE below (T1_.setTop (mkF mM 5 #[.val (.ref a), .unset, .unset] [(.long q), (.ref a)])) tT
    refine X1_.ldc2Long hx hown (mvT hZ (hw _ (List.mem_of_getElem? (i := 16) rfl))) (g := (mkF mM 5 #[.val (.ref a), .unset, .unset] [(.long q), (.ref a)])) rfl (Jvm.hb hby own_d3_5) _ ?_
    show Steps pP.tables eE below (T1_.setTop (mkF mM 8 #[.val (.ref a), .unset, .unset] [(.long (-7046029254386353131 : Int64)), (.long q), (.ref a)])) tT
    refine XS.ladd X1_.here hx rfl (Jvm.hb hby own_d3_8) rfl ?_
    show Steps pP.tables eE below (T1_.setTop (mkF mM 9 #[.val (.ref a), .unset, .unset] [(.long (q + (-7046029254386353131 : Int64))), (.ref a)])) tT
    exact kK
  obtain ⟨T2_, h2_, X2_, e2_, W2_, st2_⟩ := putF X1_ hx hZ hown (host := "") (Or.inl (hw _ (List.mem_of_getElem? (i := 9) rfl))) Via.refl e1_ Fa Ea (Or.inl (hw _ (List.mem_of_getElem? (i := 10) rfl))) (hw _ (List.mem_of_getElem? (i := 1) rfl)) (ty := .long) (by decide) rfl rfl (g := (mkF mM 9 #[.val (.ref a), .unset, .unset] [(.long (q + (-7046029254386353131 : Int64))), (.ref a)])) rfl rfl (Jvm.hb hby own_d3_9)
  have Fw2_ := Fa.same W2_
  have fc3_ := Ea.wr W2_
  have K2_ := K0.wr W2_ (Or.inl (List.mem_of_getElem? (i := 0) rfl))
  have N2_ := Fr.snoc X2_ N0 ga
  refine own_fin st2_ ?_
  show own_Fin pP eE below _ (T2_.setTop (mkF mM 12 #[.val (.ref a), .unset, .unset] []))
  refine own_fin (b := T2_.setTop (mkF mM 13 #[.val (.ref a), .unset, .unset] [(.ref a)])) (fun tT kK => ?_) ?_
  · show Steps pP.tables eE below (T2_.setTop (mkF mM 12 #[.val (.ref a), .unset, .unset] [])) tT
    refine XS.aloadN X2_.here hx rfl (Jvm.hb hby own_d3_12) rfl rfl ?_
    show Steps pP.tables eE below (T2_.setTop (mkF mM 13 #[.val (.ref a), .unset, .unset] [(.ref a)])) tT
    exact kK
  obtain ⟨T4_, X4_, e4_, st4_⟩ := getF X2_ hx hZ hown (host := "") (Or.inl (hw _ (List.mem_of_getElem? (i := 9) rfl))) Via.refl e2_ Fw2_ (g := (mkF mM 13 #[.val (.ref a), .unset, .unset] [(.ref a)])) rfl rfl (Jvm.hb hby own_d3_13)
  refine own_fin st4_ ?_
  show own_Fin pP eE below _ (T4_.setTop (mkF mM 16 #[.val (.ref a), .unset, .unset] [(.long (q + (-7046029254386353131 : Int64)))]))
  refine own_fin (b := T4_.setTop (mkF mM 17 #[.val (.ref a), .val (.long (q + (-7046029254386353131 : Int64))), .second] [])) (fun tT kK => ?_) ?_
  · show Steps pP.tables eE below (T4_.setTop (mkF mM 16 #[.val (.ref a), .unset, .unset] [(.long (q + (-7046029254386353131 : Int64)))])) tT
    refine XS.lstoreN X4_.here hx rfl (Jvm.hb hby own_d3_16) rfl (l' := #[.val (.ref a), .val (.long (q + (-7046029254386353131 : Int64))), .second]) rfl ?_
    show Steps pP.tables eE below (T4_.setTop (mkF mM 17 #[.val (.ref a), .val (.long (q + (-7046029254386353131 : Int64))), .second] [])) tT
    exact kK
  show own_Fin pP eE below _ (T4_.setTop (mkF mM 17 #[.val (.ref a), .val (.long (q + (-7046029254386353131 : Int64))), .second] []))
  generalize hz0 : (q + (-7046029254386353131 : Int64)) = z0
  show own_Fin pP eE below _ (T4_.setTop (mkF mM 17 #[.val (.ref a), .val (.long z0), .second] []))
  refine own_fin (b := T4_.setTop (mkF mM 28 #[.val (.ref a), .val (.long ((z0 ^^^ ((z0.toUInt64 >>> ((30 : Int32) &&& 0x3f).toInt64.toUInt64).toInt64)) * (-4658895280553007687 : Int64))), .second] [])) (fun tT kK => ?_) ?_
  · show Steps pP.tables eE below (T4_.setTop (mkF mM 17 #[.val (.ref a), .val (.long z0), .second] [])) tT
    refine XS.lloadN X4_.here hx rfl (Jvm.hb hby own_d3_17) rfl ?_
    show Steps pP.tables eE below (T4_.setTop (mkF mM 18 #[.val (.ref a), .val (.long z0), .second] [(.long z0)])) tT
    refine XS.lloadN X4_.here hx rfl (Jvm.hb hby own_d3_18) rfl ?_
    show Steps pP.tables eE below (T4_.setTop (mkF mM 19 #[.val (.ref a), .val (.long z0), .second] [(.long z0), (.long z0)])) tT
    refine XS.bipush X4_.here hx rfl (Jvm.hb hby own_d3_19) ?_
    show Steps pP.tables eE below (T4_.setTop (mkF mM 21 #[.val (.ref a), .val (.long z0), .second] [(.int (30 : Int32)), (.long z0), (.long z0)])) tT
    refine XS.lushr X4_.here hx rfl (Jvm.hb hby own_d3_21) rfl ?_
    show Steps pP.tables eE below (T4_.setTop (mkF mM 22 #[.val (.ref a), .val (.long z0), .second] [(.long ((z0.toUInt64 >>> ((30 : Int32) &&& 0x3f).toInt64.toUInt64).toInt64)), (.long z0)])) tT
    refine XS.lxor X4_.here hx rfl (Jvm.hb hby own_d3_22) rfl ?_
    show Steps pP.tables eE below (T4_.setTop (mkF mM 23 #[.val (.ref a), .val (.long z0), .second] [(.long (z0 ^^^ ((z0.toUInt64 >>> ((30 : Int32) &&& 0x3f).toInt64.toUInt64).toInt64)))])) tT
    refine X4_.ldc2Long hx hown (mvT hZ (hw _ (List.mem_of_getElem? (i := 17) rfl))) (g := (mkF mM 23 #[.val (.ref a), .val (.long z0), .second] [(.long (z0 ^^^ ((z0.toUInt64 >>> ((30 : Int32) &&& 0x3f).toInt64.toUInt64).toInt64)))])) rfl (Jvm.hb hby own_d3_23) _ ?_
    show Steps pP.tables eE below (T4_.setTop (mkF mM 26 #[.val (.ref a), .val (.long z0), .second] [(.long (-4658895280553007687 : Int64)), (.long (z0 ^^^ ((z0.toUInt64 >>> ((30 : Int32) &&& 0x3f).toInt64.toUInt64).toInt64)))])) tT
    refine XS.lmul X4_.here hx rfl (Jvm.hb hby own_d3_26) rfl ?_
    show Steps pP.tables eE below (T4_.setTop (mkF mM 27 #[.val (.ref a), .val (.long z0), .second] [(.long ((z0 ^^^ ((z0.toUInt64 >>> ((30 : Int32) &&& 0x3f).toInt64.toUInt64).toInt64)) * (-4658895280553007687 : Int64)))])) tT
    refine XS.lstoreN X4_.here hx rfl (Jvm.hb hby own_d3_27) rfl (l' := #[.val (.ref a), .val (.long ((z0 ^^^ ((z0.toUInt64 >>> ((30 : Int32) &&& 0x3f).toInt64.toUInt64).toInt64)) * (-4658895280553007687 : Int64))), .second]) rfl ?_
    show Steps pP.tables eE below (T4_.setTop (mkF mM 28 #[.val (.ref a), .val (.long ((z0 ^^^ ((z0.toUInt64 >>> ((30 : Int32) &&& 0x3f).toInt64.toUInt64).toInt64)) * (-4658895280553007687 : Int64))), .second] [])) tT
    exact kK
  show own_Fin pP eE below _ (T4_.setTop (mkF mM 28 #[.val (.ref a), .val (.long ((z0 ^^^ ((z0.toUInt64 >>> ((30 : Int32) &&& 0x3f).toInt64.toUInt64).toInt64)) * (-4658895280553007687 : Int64))), .second] []))
  generalize hz1 : ((z0 ^^^ ((z0.toUInt64 >>> ((30 : Int32) &&& 0x3f).toInt64.toUInt64).toInt64)) * (-4658895280553007687 : Int64)) = z1
  show own_Fin pP eE below _ (T4_.setTop (mkF mM 28 #[.val (.ref a), .val (.long z1), .second] []))
  refine own_fin (b := T4_.setTop (mkF mM 39 #[.val (.ref a), .val (.long ((z1 ^^^ ((z1.toUInt64 >>> ((27 : Int32) &&& 0x3f).toInt64.toUInt64).toInt64)) * (-7723592293110705685 : Int64))), .second] [])) (fun tT kK => ?_) ?_
  · show Steps pP.tables eE below (T4_.setTop (mkF mM 28 #[.val (.ref a), .val (.long z1), .second] [])) tT
    refine XS.lloadN X4_.here hx rfl (Jvm.hb hby own_d3_28) rfl ?_
    show Steps pP.tables eE below (T4_.setTop (mkF mM 29 #[.val (.ref a), .val (.long z1), .second] [(.long z1)])) tT
    refine XS.lloadN X4_.here hx rfl (Jvm.hb hby own_d3_29) rfl ?_
    show Steps pP.tables eE below (T4_.setTop (mkF mM 30 #[.val (.ref a), .val (.long z1), .second] [(.long z1), (.long z1)])) tT
    refine XS.bipush X4_.here hx rfl (Jvm.hb hby own_d3_30) ?_
    show Steps pP.tables eE below (T4_.setTop (mkF mM 32 #[.val (.ref a), .val (.long z1), .second] [(.int (27 : Int32)), (.long z1), (.long z1)])) tT
    refine XS.lushr X4_.here hx rfl (Jvm.hb hby own_d3_32) rfl ?_
    show Steps pP.tables eE below (T4_.setTop (mkF mM 33 #[.val (.ref a), .val (.long z1), .second] [(.long ((z1.toUInt64 >>> ((27 : Int32) &&& 0x3f).toInt64.toUInt64).toInt64)), (.long z1)])) tT
    refine XS.lxor X4_.here hx rfl (Jvm.hb hby own_d3_33) rfl ?_
    show Steps pP.tables eE below (T4_.setTop (mkF mM 34 #[.val (.ref a), .val (.long z1), .second] [(.long (z1 ^^^ ((z1.toUInt64 >>> ((27 : Int32) &&& 0x3f).toInt64.toUInt64).toInt64)))])) tT
    refine X4_.ldc2Long hx hown (mvT hZ (hw _ (List.mem_of_getElem? (i := 18) rfl))) (g := (mkF mM 34 #[.val (.ref a), .val (.long z1), .second] [(.long (z1 ^^^ ((z1.toUInt64 >>> ((27 : Int32) &&& 0x3f).toInt64.toUInt64).toInt64)))])) rfl (Jvm.hb hby own_d3_34) _ ?_
    show Steps pP.tables eE below (T4_.setTop (mkF mM 37 #[.val (.ref a), .val (.long z1), .second] [(.long (-7723592293110705685 : Int64)), (.long (z1 ^^^ ((z1.toUInt64 >>> ((27 : Int32) &&& 0x3f).toInt64.toUInt64).toInt64)))])) tT
    refine XS.lmul X4_.here hx rfl (Jvm.hb hby own_d3_37) rfl ?_
    show Steps pP.tables eE below (T4_.setTop (mkF mM 38 #[.val (.ref a), .val (.long z1), .second] [(.long ((z1 ^^^ ((z1.toUInt64 >>> ((27 : Int32) &&& 0x3f).toInt64.toUInt64).toInt64)) * (-7723592293110705685 : Int64)))])) tT
    refine XS.lstoreN X4_.here hx rfl (Jvm.hb hby own_d3_38) rfl (l' := #[.val (.ref a), .val (.long ((z1 ^^^ ((z1.toUInt64 >>> ((27 : Int32) &&& 0x3f).toInt64.toUInt64).toInt64)) * (-7723592293110705685 : Int64))), .second]) rfl ?_
    show Steps pP.tables eE below (T4_.setTop (mkF mM 39 #[.val (.ref a), .val (.long ((z1 ^^^ ((z1.toUInt64 >>> ((27 : Int32) &&& 0x3f).toInt64.toUInt64).toInt64)) * (-7723592293110705685 : Int64))), .second] [])) tT
    exact kK
  show own_Fin pP eE below _ (T4_.setTop (mkF mM 39 #[.val (.ref a), .val (.long ((z1 ^^^ ((z1.toUInt64 >>> ((27 : Int32) &&& 0x3f).toInt64.toUInt64).toInt64)) * (-7723592293110705685 : Int64))), .second] []))
  generalize hz2 : ((z1 ^^^ ((z1.toUInt64 >>> ((27 : Int32) &&& 0x3f).toInt64.toUInt64).toInt64)) * (-7723592293110705685 : Int64)) = z2
  show own_Fin pP eE below _ (T4_.setTop (mkF mM 39 #[.val (.ref a), .val (.long z2), .second] []))
  refine own_fin (b := T4_.setTop (mkF mM 45 #[.val (.ref a), .val (.long z2), .second] [(.long (z2 ^^^ ((z2.toUInt64 >>> ((31 : Int32) &&& 0x3f).toInt64.toUInt64).toInt64)))])) (fun tT kK => ?_) ?_
  · show Steps pP.tables eE below (T4_.setTop (mkF mM 39 #[.val (.ref a), .val (.long z2), .second] [])) tT
    refine XS.lloadN X4_.here hx rfl (Jvm.hb hby own_d3_39) rfl ?_
    show Steps pP.tables eE below (T4_.setTop (mkF mM 40 #[.val (.ref a), .val (.long z2), .second] [(.long z2)])) tT
    refine XS.lloadN X4_.here hx rfl (Jvm.hb hby own_d3_40) rfl ?_
    show Steps pP.tables eE below (T4_.setTop (mkF mM 41 #[.val (.ref a), .val (.long z2), .second] [(.long z2), (.long z2)])) tT
    refine XS.bipush X4_.here hx rfl (Jvm.hb hby own_d3_41) ?_
    show Steps pP.tables eE below (T4_.setTop (mkF mM 43 #[.val (.ref a), .val (.long z2), .second] [(.int (31 : Int32)), (.long z2), (.long z2)])) tT
    refine XS.lushr X4_.here hx rfl (Jvm.hb hby own_d3_43) rfl ?_
    show Steps pP.tables eE below (T4_.setTop (mkF mM 44 #[.val (.ref a), .val (.long z2), .second] [(.long ((z2.toUInt64 >>> ((31 : Int32) &&& 0x3f).toInt64.toUInt64).toInt64)), (.long z2)])) tT
    refine XS.lxor X4_.here hx rfl (Jvm.hb hby own_d3_44) rfl ?_
    show Steps pP.tables eE below (T4_.setTop (mkF mM 45 #[.val (.ref a), .val (.long z2), .second] [(.long (z2 ^^^ ((z2.toUInt64 >>> ((31 : Int32) &&& 0x3f).toInt64.toUInt64).toInt64)))])) tT
    exact kK
  obtain ⟨fs, hr, hrun, hended, hW, hsame⟩ := X4_.leave (v := some (.long (z2 ^^^ ((z2.toUInt64 >>> ((31 : Int32) &&& 0x3f).toInt64.toUInt64).toInt64)))) (fun h => by rw [Bd.returns] at h; cases h)
  refine ⟨_, _, ?_, hrun, hended, _, _, rfl, ?_, ⟨_, rfl⟩, hW, hsame.mono (by decide) (by decide)⟩
  · show Steps pP.tables eE below (T4_.setTop (mkF mM 45 #[.val (.ref a), .val (.long z2), .second] [(.long (z2 ^^^ ((z2.toUInt64 >>> ((31 : Int32) &&& 0x3f).toInt64.toUInt64).toInt64)))])) _
    exact retOut X4_ hx Bd.returns rfl (Or.inr (Or.inl ⟨rfl, rfl, _, rfl⟩)) (Jvm.hb hby own_d3_45) hr
  · show Q_rm_next Z a q h0 n0 _ T4_.heap _
    rw [e4_]
    exact ⟨by subst hz2 hz1 hz0; rw [own_sx_eq _ 31 31 (by decide), own_sx_eq _ 27 27 (by decide), own_sx_eq _ 30 30 (by decide)]; rfl, N2_, K2_, fc3_, Fw2_⟩
theorem own_d4_0 : decode method_2_code 0 = .ok (.lload_n 0, 1) := by decide +kernel
theorem own_d4_1 : decode method_2_code 1 = .ok (.lstore_n 2, 1) := by decide +kernel
theorem own_d4_2 : decode method_2_code 2 = .ok (.lload_n 2, 1) := by decide +kernel
theorem own_d4_3 : decode method_2_code 3 = .ok (.ldc2_w 7, 3) := by decide +kernel
theorem own_d4_6 : decode method_2_code 6 = .ok (.lload_n 0, 1) := by decide +kernel
theorem own_d4_7 : decode method_2_code 7 = .ok (.lload_n 2, 1) := by decide +kernel
theorem own_d4_8 : decode method_2_code 8 = .ok (.lmul, 1) := by decide +kernel
theorem own_d4_9 : decode method_2_code 9 = .ok (.lsub, 1) := by decide +kernel
theorem own_d4_10 : decode method_2_code 10 = .ok (.lmul, 1) := by decide +kernel
theorem own_d4_11 : decode method_2_code 11 = .ok (.lstore_n 2, 1) := by decide +kernel
theorem own_d4_12 : decode method_2_code 12 = .ok (.lload_n 2, 1) := by decide +kernel
theorem own_d4_13 : decode method_2_code 13 = .ok (.ldc2_w 7, 3) := by decide +kernel
theorem own_d4_16 : decode method_2_code 16 = .ok (.lload_n 0, 1) := by decide +kernel
theorem own_d4_17 : decode method_2_code 17 = .ok (.lload_n 2, 1) := by decide +kernel
theorem own_d4_18 : decode method_2_code 18 = .ok (.lmul, 1) := by decide +kernel
theorem own_d4_19 : decode method_2_code 19 = .ok (.lsub, 1) := by decide +kernel
theorem own_d4_20 : decode method_2_code 20 = .ok (.lmul, 1) := by decide +kernel
theorem own_d4_21 : decode method_2_code 21 = .ok (.lstore_n 2, 1) := by decide +kernel
theorem own_d4_22 : decode method_2_code 22 = .ok (.lload_n 2, 1) := by decide +kernel
theorem own_d4_23 : decode method_2_code 23 = .ok (.ldc2_w 7, 3) := by decide +kernel
theorem own_d4_26 : decode method_2_code 26 = .ok (.lload_n 0, 1) := by decide +kernel
theorem own_d4_27 : decode method_2_code 27 = .ok (.lload_n 2, 1) := by decide +kernel
theorem own_d4_28 : decode method_2_code 28 = .ok (.lmul, 1) := by decide +kernel
theorem own_d4_29 : decode method_2_code 29 = .ok (.lsub, 1) := by decide +kernel
theorem own_d4_30 : decode method_2_code 30 = .ok (.lmul, 1) := by decide +kernel
theorem own_d4_31 : decode method_2_code 31 = .ok (.lstore_n 2, 1) := by decide +kernel
theorem own_d4_32 : decode method_2_code 32 = .ok (.lload_n 2, 1) := by decide +kernel
theorem own_d4_33 : decode method_2_code 33 = .ok (.ldc2_w 7, 3) := by decide +kernel
theorem own_d4_36 : decode method_2_code 36 = .ok (.lload_n 0, 1) := by decide +kernel
theorem own_d4_37 : decode method_2_code 37 = .ok (.lload_n 2, 1) := by decide +kernel
theorem own_d4_38 : decode method_2_code 38 = .ok (.lmul, 1) := by decide +kernel
theorem own_d4_39 : decode method_2_code 39 = .ok (.lsub, 1) := by decide +kernel
theorem own_d4_40 : decode method_2_code 40 = .ok (.lmul, 1) := by decide +kernel
theorem own_d4_41 : decode method_2_code 41 = .ok (.lstore_n 2, 1) := by decide +kernel
theorem own_d4_42 : decode method_2_code 42 = .ok (.lload_n 2, 1) := by decide +kernel
theorem own_d4_43 : decode method_2_code 43 = .ok (.ldc2_w 7, 3) := by decide +kernel
theorem own_d4_46 : decode method_2_code 46 = .ok (.lload_n 0, 1) := by decide +kernel
theorem own_d4_47 : decode method_2_code 47 = .ok (.lload_n 2, 1) := by decide +kernel
theorem own_d4_48 : decode method_2_code 48 = .ok (.lmul, 1) := by decide +kernel
theorem own_d4_49 : decode method_2_code 49 = .ok (.lsub, 1) := by decide +kernel
theorem own_d4_50 : decode method_2_code 50 = .ok (.lmul, 1) := by decide +kernel
theorem own_d4_51 : decode method_2_code 51 = .ok (.lstore_n 2, 1) := by decide +kernel
theorem own_d4_52 : decode method_2_code 52 = .ok (.lload_n 2, 1) := by decide +kernel
theorem own_d4_53 : decode method_2_code 53 = .ok (.lreturn, 1) := by decide +kernel
theorem own_pn_com_example_chains_to_rank_chainstorank_graph_SplitMix64NextLongPinLaw : plainName "com/example/chains_to_rank/chainstorank/graph/SplitMix64NextLongPinLaw" = true := by first | (simp [plainName, overriddenIn]; done) | decide +kernel
theorem own_ef_rm_inv (mM : MethodId) (x0 : Int64) : entryFrame mM #[(.long x0)] 4 = mkF mM 0 #[.val (.long x0), .second, .unset, .unset] [] := by first | (simp [entryFrame, mkF, argsToLocals, Value.category]; done) | rfl
def Q_rm_inv (Z : State) (q : Int64) (h0 : Heap) (n0 : Nat) (vV : Option Value) (hH : Heap) (lA : List Loc) : Prop := vV = some (.long (own_inv q)) ∧ Fr n0 lA ∧ (hH = h0)
set_option maxRecDepth 65536 in
set_option maxHeartbeats 40000000 in
theorem rm_inv (lL : Launch) (Z : State) (a0 : Array Value) (hw : ∀ d ∈ tables_1, d.before a0 Z = true) (ws : List Jvm.Cond) (q : Int64) (h0 : Heap) (n0 : Nat) (Z0 : n0 ≤ h0.size) :
    MetFree lL (⟨"com/example/chains_to_rank/chainstorank/graph/SplitMix64NextLongPinLaw", "inverseOfOdd", "(J)J"⟩ : MethodName) (head1 (Jvm.Cond.code (⟨"com/example/chains_to_rank/chainstorank/graph/SplitMix64NextLongPinLaw", "inverseOfOdd", "(J)J"⟩ : MethodName) method_2_code 4 (some .long) :: ws) ({ frames := 0, cells := 0, slots := 0, locals := 0 } : Room)) (fun aA uU => aA = #[(.long q)] ∧ Z.Warmed39 uU.vm ∧ uU.heap = h0) (fun _ _ _ _ _ => True) (fun _ uU oO uU' => ∃ vV lA, oO = .returned vV ∧ Q_rm_inv Z q h0 n0 vV uU'.heap lA ∧ FrameEnd uU oO uU' lA ({ frames := 0, cells := 0, slots := 0, locals := 0 } : Room).cells ({ frames := 0, cells := 0, slots := 0, locals := 0 } : Room).slots) := by
  refine MetFree.of_bodySF (plainFor_of_name own_pn_com_example_chains_to_rank_chainstorank_graph_SplitMix64NextLongPinLaw) hisR ?_
  intro pP eE sS mM args below meth cC s₁ Bd hml0 hP hK
  obtain ⟨rfl, hZ, hh⟩ := hP
  have hx := Bd.exec
  have hby := Bd.bytes
  have hml : cC.maxLocals = 4 := hml0
  have hown : sS.vm.findClass "com/example/chains_to_rank/chainstorank/graph/SplitMix64NextLongPinLaw" = some mM.cls := findClass_of_methodNamed Bd.named
  have hnm := (name_of_methodNamed Bd.named Bd.method).1
  have X0 : Stand pP lL eE ({ frames := 0, cells := 0, slots := 0, locals := 0 } : Room) sS mM #[(.long q)] below meth cC s₁ [] 0 0 := Stand.of_body Bd
  have e0 : s₁.heap = h0 := by rw [← hh, Bd.state]; rfl
  have N0 := Fr.nil n0
  have K0 := Keep.refl h0 ([] : List Addr)
  show own_Fin pP eE below (fun tT oO => ∃ vV lA, oO = .returned vV ∧ Q_rm_inv Z q h0 n0 vV tT.heap lA ∧ FrameEnd sS oO tT lA ({ frames := 0, cells := 0, slots := 0, locals := 0 } : Room).cells ({ frames := 0, cells := 0, slots := 0, locals := 0 } : Room).slots) (s₁.setTop (entryFrame mM #[(.long q)] 4))
  refine own_fin (b := s₁.setTop (mkF mM 0 #[.val (.long q), .second, .unset, .unset] [])) (fun tT kK => castTop (own_ef_rm_inv mM q) kK) ?_
  refine own_fin (b := s₁.setTop (mkF mM 12 #[.val (.long q), .second, .val (.long (q * ((2 : Int64) - (q * q)))), .second] [])) (fun tT kK => ?_) ?_
  · show Steps pP.tables eE below (s₁.setTop (mkF mM 0 #[.val (.long q), .second, .unset, .unset] [])) tT
    refine XS.lloadN X0.here hx rfl (Jvm.hb hby own_d4_0) rfl ?_
    show Steps pP.tables eE below (s₁.setTop (mkF mM 1 #[.val (.long q), .second, .unset, .unset] [(.long q)])) tT
    refine XS.lstoreN X0.here hx rfl (Jvm.hb hby own_d4_1) rfl (l' := #[.val (.long q), .second, .val (.long q), .second]) rfl ?_
    show Steps pP.tables eE below (s₁.setTop (mkF mM 2 #[.val (.long q), .second, .val (.long q), .second] [])) tT
    refine XS.lloadN X0.here hx rfl (Jvm.hb hby own_d4_2) rfl ?_
    show Steps pP.tables eE below (s₁.setTop (mkF mM 3 #[.val (.long q), .second, .val (.long q), .second] [(.long q)])) tT
    refine X0.ldc2Long hx hown (mvT hZ (hw _ (List.mem_of_getElem? (i := 24) rfl))) (g := (mkF mM 3 #[.val (.long q), .second, .val (.long q), .second] [(.long q)])) rfl (Jvm.hb hby own_d4_3) _ ?_
    show Steps pP.tables eE below (s₁.setTop (mkF mM 6 #[.val (.long q), .second, .val (.long q), .second] [(.long (2 : Int64)), (.long q)])) tT
    refine XS.lloadN X0.here hx rfl (Jvm.hb hby own_d4_6) rfl ?_
    show Steps pP.tables eE below (s₁.setTop (mkF mM 7 #[.val (.long q), .second, .val (.long q), .second] [(.long q), (.long (2 : Int64)), (.long q)])) tT
    refine XS.lloadN X0.here hx rfl (Jvm.hb hby own_d4_7) rfl ?_
    show Steps pP.tables eE below (s₁.setTop (mkF mM 8 #[.val (.long q), .second, .val (.long q), .second] [(.long q), (.long q), (.long (2 : Int64)), (.long q)])) tT
    refine XS.lmul X0.here hx rfl (Jvm.hb hby own_d4_8) rfl ?_
    show Steps pP.tables eE below (s₁.setTop (mkF mM 9 #[.val (.long q), .second, .val (.long q), .second] [(.long (q * q)), (.long (2 : Int64)), (.long q)])) tT
    refine XS.lsub X0.here hx rfl (Jvm.hb hby own_d4_9) rfl ?_
    show Steps pP.tables eE below (s₁.setTop (mkF mM 10 #[.val (.long q), .second, .val (.long q), .second] [(.long ((2 : Int64) - (q * q))), (.long q)])) tT
    refine XS.lmul X0.here hx rfl (Jvm.hb hby own_d4_10) rfl ?_
    show Steps pP.tables eE below (s₁.setTop (mkF mM 11 #[.val (.long q), .second, .val (.long q), .second] [(.long (q * ((2 : Int64) - (q * q))))])) tT
    refine XS.lstoreN X0.here hx rfl (Jvm.hb hby own_d4_11) rfl (l' := #[.val (.long q), .second, .val (.long (q * ((2 : Int64) - (q * q)))), .second]) rfl ?_
    show Steps pP.tables eE below (s₁.setTop (mkF mM 12 #[.val (.long q), .second, .val (.long (q * ((2 : Int64) - (q * q)))), .second] [])) tT
    exact kK
  show own_Fin pP eE below _ (s₁.setTop (mkF mM 12 #[.val (.long q), .second, .val (.long (q * ((2 : Int64) - (q * q)))), .second] []))
  generalize hz0 : (q * ((2 : Int64) - (q * q))) = z0
  show own_Fin pP eE below _ (s₁.setTop (mkF mM 12 #[.val (.long q), .second, .val (.long z0), .second] []))
  refine own_fin (b := s₁.setTop (mkF mM 22 #[.val (.long q), .second, .val (.long (z0 * ((2 : Int64) - (q * z0)))), .second] [])) (fun tT kK => ?_) ?_
  · show Steps pP.tables eE below (s₁.setTop (mkF mM 12 #[.val (.long q), .second, .val (.long z0), .second] [])) tT
    refine XS.lloadN X0.here hx rfl (Jvm.hb hby own_d4_12) rfl ?_
    show Steps pP.tables eE below (s₁.setTop (mkF mM 13 #[.val (.long q), .second, .val (.long z0), .second] [(.long z0)])) tT
    refine X0.ldc2Long hx hown (mvT hZ (hw _ (List.mem_of_getElem? (i := 24) rfl))) (g := (mkF mM 13 #[.val (.long q), .second, .val (.long z0), .second] [(.long z0)])) rfl (Jvm.hb hby own_d4_13) _ ?_
    show Steps pP.tables eE below (s₁.setTop (mkF mM 16 #[.val (.long q), .second, .val (.long z0), .second] [(.long (2 : Int64)), (.long z0)])) tT
    refine XS.lloadN X0.here hx rfl (Jvm.hb hby own_d4_16) rfl ?_
    show Steps pP.tables eE below (s₁.setTop (mkF mM 17 #[.val (.long q), .second, .val (.long z0), .second] [(.long q), (.long (2 : Int64)), (.long z0)])) tT
    refine XS.lloadN X0.here hx rfl (Jvm.hb hby own_d4_17) rfl ?_
    show Steps pP.tables eE below (s₁.setTop (mkF mM 18 #[.val (.long q), .second, .val (.long z0), .second] [(.long z0), (.long q), (.long (2 : Int64)), (.long z0)])) tT
    refine XS.lmul X0.here hx rfl (Jvm.hb hby own_d4_18) rfl ?_
    show Steps pP.tables eE below (s₁.setTop (mkF mM 19 #[.val (.long q), .second, .val (.long z0), .second] [(.long (q * z0)), (.long (2 : Int64)), (.long z0)])) tT
    refine XS.lsub X0.here hx rfl (Jvm.hb hby own_d4_19) rfl ?_
    show Steps pP.tables eE below (s₁.setTop (mkF mM 20 #[.val (.long q), .second, .val (.long z0), .second] [(.long ((2 : Int64) - (q * z0))), (.long z0)])) tT
    refine XS.lmul X0.here hx rfl (Jvm.hb hby own_d4_20) rfl ?_
    show Steps pP.tables eE below (s₁.setTop (mkF mM 21 #[.val (.long q), .second, .val (.long z0), .second] [(.long (z0 * ((2 : Int64) - (q * z0))))])) tT
    refine XS.lstoreN X0.here hx rfl (Jvm.hb hby own_d4_21) rfl (l' := #[.val (.long q), .second, .val (.long (z0 * ((2 : Int64) - (q * z0)))), .second]) rfl ?_
    show Steps pP.tables eE below (s₁.setTop (mkF mM 22 #[.val (.long q), .second, .val (.long (z0 * ((2 : Int64) - (q * z0)))), .second] [])) tT
    exact kK
  show own_Fin pP eE below _ (s₁.setTop (mkF mM 22 #[.val (.long q), .second, .val (.long (z0 * ((2 : Int64) - (q * z0)))), .second] []))
  generalize hz1 : (z0 * ((2 : Int64) - (q * z0))) = z1
  show own_Fin pP eE below _ (s₁.setTop (mkF mM 22 #[.val (.long q), .second, .val (.long z1), .second] []))
  refine own_fin (b := s₁.setTop (mkF mM 32 #[.val (.long q), .second, .val (.long (z1 * ((2 : Int64) - (q * z1)))), .second] [])) (fun tT kK => ?_) ?_
  · show Steps pP.tables eE below (s₁.setTop (mkF mM 22 #[.val (.long q), .second, .val (.long z1), .second] [])) tT
    refine XS.lloadN X0.here hx rfl (Jvm.hb hby own_d4_22) rfl ?_
    show Steps pP.tables eE below (s₁.setTop (mkF mM 23 #[.val (.long q), .second, .val (.long z1), .second] [(.long z1)])) tT
    refine X0.ldc2Long hx hown (mvT hZ (hw _ (List.mem_of_getElem? (i := 24) rfl))) (g := (mkF mM 23 #[.val (.long q), .second, .val (.long z1), .second] [(.long z1)])) rfl (Jvm.hb hby own_d4_23) _ ?_
    show Steps pP.tables eE below (s₁.setTop (mkF mM 26 #[.val (.long q), .second, .val (.long z1), .second] [(.long (2 : Int64)), (.long z1)])) tT
    refine XS.lloadN X0.here hx rfl (Jvm.hb hby own_d4_26) rfl ?_
    show Steps pP.tables eE below (s₁.setTop (mkF mM 27 #[.val (.long q), .second, .val (.long z1), .second] [(.long q), (.long (2 : Int64)), (.long z1)])) tT
    refine XS.lloadN X0.here hx rfl (Jvm.hb hby own_d4_27) rfl ?_
    show Steps pP.tables eE below (s₁.setTop (mkF mM 28 #[.val (.long q), .second, .val (.long z1), .second] [(.long z1), (.long q), (.long (2 : Int64)), (.long z1)])) tT
    refine XS.lmul X0.here hx rfl (Jvm.hb hby own_d4_28) rfl ?_
    show Steps pP.tables eE below (s₁.setTop (mkF mM 29 #[.val (.long q), .second, .val (.long z1), .second] [(.long (q * z1)), (.long (2 : Int64)), (.long z1)])) tT
    refine XS.lsub X0.here hx rfl (Jvm.hb hby own_d4_29) rfl ?_
    show Steps pP.tables eE below (s₁.setTop (mkF mM 30 #[.val (.long q), .second, .val (.long z1), .second] [(.long ((2 : Int64) - (q * z1))), (.long z1)])) tT
    refine XS.lmul X0.here hx rfl (Jvm.hb hby own_d4_30) rfl ?_
    show Steps pP.tables eE below (s₁.setTop (mkF mM 31 #[.val (.long q), .second, .val (.long z1), .second] [(.long (z1 * ((2 : Int64) - (q * z1))))])) tT
    refine XS.lstoreN X0.here hx rfl (Jvm.hb hby own_d4_31) rfl (l' := #[.val (.long q), .second, .val (.long (z1 * ((2 : Int64) - (q * z1)))), .second]) rfl ?_
    show Steps pP.tables eE below (s₁.setTop (mkF mM 32 #[.val (.long q), .second, .val (.long (z1 * ((2 : Int64) - (q * z1)))), .second] [])) tT
    exact kK
  show own_Fin pP eE below _ (s₁.setTop (mkF mM 32 #[.val (.long q), .second, .val (.long (z1 * ((2 : Int64) - (q * z1)))), .second] []))
  generalize hz2 : (z1 * ((2 : Int64) - (q * z1))) = z2
  show own_Fin pP eE below _ (s₁.setTop (mkF mM 32 #[.val (.long q), .second, .val (.long z2), .second] []))
  refine own_fin (b := s₁.setTop (mkF mM 42 #[.val (.long q), .second, .val (.long (z2 * ((2 : Int64) - (q * z2)))), .second] [])) (fun tT kK => ?_) ?_
  · show Steps pP.tables eE below (s₁.setTop (mkF mM 32 #[.val (.long q), .second, .val (.long z2), .second] [])) tT
    refine XS.lloadN X0.here hx rfl (Jvm.hb hby own_d4_32) rfl ?_
    show Steps pP.tables eE below (s₁.setTop (mkF mM 33 #[.val (.long q), .second, .val (.long z2), .second] [(.long z2)])) tT
    refine X0.ldc2Long hx hown (mvT hZ (hw _ (List.mem_of_getElem? (i := 24) rfl))) (g := (mkF mM 33 #[.val (.long q), .second, .val (.long z2), .second] [(.long z2)])) rfl (Jvm.hb hby own_d4_33) _ ?_
    show Steps pP.tables eE below (s₁.setTop (mkF mM 36 #[.val (.long q), .second, .val (.long z2), .second] [(.long (2 : Int64)), (.long z2)])) tT
    refine XS.lloadN X0.here hx rfl (Jvm.hb hby own_d4_36) rfl ?_
    show Steps pP.tables eE below (s₁.setTop (mkF mM 37 #[.val (.long q), .second, .val (.long z2), .second] [(.long q), (.long (2 : Int64)), (.long z2)])) tT
    refine XS.lloadN X0.here hx rfl (Jvm.hb hby own_d4_37) rfl ?_
    show Steps pP.tables eE below (s₁.setTop (mkF mM 38 #[.val (.long q), .second, .val (.long z2), .second] [(.long z2), (.long q), (.long (2 : Int64)), (.long z2)])) tT
    refine XS.lmul X0.here hx rfl (Jvm.hb hby own_d4_38) rfl ?_
    show Steps pP.tables eE below (s₁.setTop (mkF mM 39 #[.val (.long q), .second, .val (.long z2), .second] [(.long (q * z2)), (.long (2 : Int64)), (.long z2)])) tT
    refine XS.lsub X0.here hx rfl (Jvm.hb hby own_d4_39) rfl ?_
    show Steps pP.tables eE below (s₁.setTop (mkF mM 40 #[.val (.long q), .second, .val (.long z2), .second] [(.long ((2 : Int64) - (q * z2))), (.long z2)])) tT
    refine XS.lmul X0.here hx rfl (Jvm.hb hby own_d4_40) rfl ?_
    show Steps pP.tables eE below (s₁.setTop (mkF mM 41 #[.val (.long q), .second, .val (.long z2), .second] [(.long (z2 * ((2 : Int64) - (q * z2))))])) tT
    refine XS.lstoreN X0.here hx rfl (Jvm.hb hby own_d4_41) rfl (l' := #[.val (.long q), .second, .val (.long (z2 * ((2 : Int64) - (q * z2)))), .second]) rfl ?_
    show Steps pP.tables eE below (s₁.setTop (mkF mM 42 #[.val (.long q), .second, .val (.long (z2 * ((2 : Int64) - (q * z2)))), .second] [])) tT
    exact kK
  show own_Fin pP eE below _ (s₁.setTop (mkF mM 42 #[.val (.long q), .second, .val (.long (z2 * ((2 : Int64) - (q * z2)))), .second] []))
  generalize hz3 : (z2 * ((2 : Int64) - (q * z2))) = z3
  show own_Fin pP eE below _ (s₁.setTop (mkF mM 42 #[.val (.long q), .second, .val (.long z3), .second] []))
  refine own_fin (b := s₁.setTop (mkF mM 52 #[.val (.long q), .second, .val (.long (z3 * ((2 : Int64) - (q * z3)))), .second] [])) (fun tT kK => ?_) ?_
  · show Steps pP.tables eE below (s₁.setTop (mkF mM 42 #[.val (.long q), .second, .val (.long z3), .second] [])) tT
    refine XS.lloadN X0.here hx rfl (Jvm.hb hby own_d4_42) rfl ?_
    show Steps pP.tables eE below (s₁.setTop (mkF mM 43 #[.val (.long q), .second, .val (.long z3), .second] [(.long z3)])) tT
    refine X0.ldc2Long hx hown (mvT hZ (hw _ (List.mem_of_getElem? (i := 24) rfl))) (g := (mkF mM 43 #[.val (.long q), .second, .val (.long z3), .second] [(.long z3)])) rfl (Jvm.hb hby own_d4_43) _ ?_
    show Steps pP.tables eE below (s₁.setTop (mkF mM 46 #[.val (.long q), .second, .val (.long z3), .second] [(.long (2 : Int64)), (.long z3)])) tT
    refine XS.lloadN X0.here hx rfl (Jvm.hb hby own_d4_46) rfl ?_
    show Steps pP.tables eE below (s₁.setTop (mkF mM 47 #[.val (.long q), .second, .val (.long z3), .second] [(.long q), (.long (2 : Int64)), (.long z3)])) tT
    refine XS.lloadN X0.here hx rfl (Jvm.hb hby own_d4_47) rfl ?_
    show Steps pP.tables eE below (s₁.setTop (mkF mM 48 #[.val (.long q), .second, .val (.long z3), .second] [(.long z3), (.long q), (.long (2 : Int64)), (.long z3)])) tT
    refine XS.lmul X0.here hx rfl (Jvm.hb hby own_d4_48) rfl ?_
    show Steps pP.tables eE below (s₁.setTop (mkF mM 49 #[.val (.long q), .second, .val (.long z3), .second] [(.long (q * z3)), (.long (2 : Int64)), (.long z3)])) tT
    refine XS.lsub X0.here hx rfl (Jvm.hb hby own_d4_49) rfl ?_
    show Steps pP.tables eE below (s₁.setTop (mkF mM 50 #[.val (.long q), .second, .val (.long z3), .second] [(.long ((2 : Int64) - (q * z3))), (.long z3)])) tT
    refine XS.lmul X0.here hx rfl (Jvm.hb hby own_d4_50) rfl ?_
    show Steps pP.tables eE below (s₁.setTop (mkF mM 51 #[.val (.long q), .second, .val (.long z3), .second] [(.long (z3 * ((2 : Int64) - (q * z3))))])) tT
    refine XS.lstoreN X0.here hx rfl (Jvm.hb hby own_d4_51) rfl (l' := #[.val (.long q), .second, .val (.long (z3 * ((2 : Int64) - (q * z3)))), .second]) rfl ?_
    show Steps pP.tables eE below (s₁.setTop (mkF mM 52 #[.val (.long q), .second, .val (.long (z3 * ((2 : Int64) - (q * z3)))), .second] [])) tT
    exact kK
  show own_Fin pP eE below _ (s₁.setTop (mkF mM 52 #[.val (.long q), .second, .val (.long (z3 * ((2 : Int64) - (q * z3)))), .second] []))
  generalize hz4 : (z3 * ((2 : Int64) - (q * z3))) = z4
  show own_Fin pP eE below _ (s₁.setTop (mkF mM 52 #[.val (.long q), .second, .val (.long z4), .second] []))
  refine own_fin (b := s₁.setTop (mkF mM 53 #[.val (.long q), .second, .val (.long z4), .second] [(.long z4)])) (fun tT kK => ?_) ?_
  · show Steps pP.tables eE below (s₁.setTop (mkF mM 52 #[.val (.long q), .second, .val (.long z4), .second] [])) tT
    refine XS.lloadN X0.here hx rfl (Jvm.hb hby own_d4_52) rfl ?_
    show Steps pP.tables eE below (s₁.setTop (mkF mM 53 #[.val (.long q), .second, .val (.long z4), .second] [(.long z4)])) tT
    exact kK
  obtain ⟨fs, hr, hrun, hended, hW, hsame⟩ := X0.leave (v := some (.long z4)) (fun h => by rw [Bd.returns] at h; cases h)
  refine ⟨_, _, ?_, hrun, hended, _, _, rfl, ?_, ⟨_, rfl⟩, hW, hsame.mono (by decide) (by decide)⟩
  · show Steps pP.tables eE below (s₁.setTop (mkF mM 53 #[.val (.long q), .second, .val (.long z4), .second] [(.long z4)])) _
    exact retOut X0 hx Bd.returns rfl (Or.inr (Or.inl ⟨rfl, rfl, _, rfl⟩)) (Jvm.hb hby own_d4_53) hr
  · show Q_rm_inv Z q h0 n0 _ s₁.heap _
    rw [e0]
    exact ⟨by subst hz4 hz3 hz2 hz1 hz0; rfl, N0, rfl⟩
theorem own_d5_0 : decode method_3_code 0 = .ok (.lload_n 0, 1) := by decide +kernel
theorem own_d5_1 : decode method_3_code 1 = .ok (.lload_n 0, 1) := by decide +kernel
theorem own_d5_2 : decode method_3_code 2 = .ok (.bipush 31, 2) := by decide +kernel
theorem own_d5_4 : decode method_3_code 4 = .ok (.lushr, 1) := by decide +kernel
theorem own_d5_5 : decode method_3_code 5 = .ok (.lxor, 1) := by decide +kernel
theorem own_d5_6 : decode method_3_code 6 = .ok (.lload_n 0, 1) := by decide +kernel
theorem own_d5_7 : decode method_3_code 7 = .ok (.bipush 62, 2) := by decide +kernel
theorem own_d5_9 : decode method_3_code 9 = .ok (.lushr, 1) := by decide +kernel
theorem own_d5_10 : decode method_3_code 10 = .ok (.lxor, 1) := by decide +kernel
theorem own_d5_11 : decode method_3_code 11 = .ok (.lstore_n 2, 1) := by decide +kernel
theorem own_d5_12 : decode method_3_code 12 = .ok (.lload_n 2, 1) := by decide +kernel
theorem own_d5_13 : decode method_3_code 13 = .ok (.ldc2_w 11, 3) := by decide +kernel
theorem own_d5_16 : decode method_3_code 16 = .ok (.invokestatic 13, 3) := by decide +kernel
theorem own_pd0 : parseMethodDescriptor "(J)J" = some ⟨[.long], some .long⟩ := by decide +kernel
theorem own_d5_19 : decode method_3_code 19 = .ok (.lmul, 1) := by decide +kernel
theorem own_d5_20 : decode method_3_code 20 = .ok (.lstore 4, 2) := by decide +kernel
theorem own_d5_22 : decode method_3_code 22 = .ok (.lload 4, 2) := by decide +kernel
theorem own_d5_24 : decode method_3_code 24 = .ok (.lload 4, 2) := by decide +kernel
theorem own_d5_26 : decode method_3_code 26 = .ok (.bipush 27, 2) := by decide +kernel
theorem own_d5_28 : decode method_3_code 28 = .ok (.lushr, 1) := by decide +kernel
theorem own_d5_29 : decode method_3_code 29 = .ok (.lxor, 1) := by decide +kernel
theorem own_d5_30 : decode method_3_code 30 = .ok (.lload 4, 2) := by decide +kernel
theorem own_d5_32 : decode method_3_code 32 = .ok (.bipush 54, 2) := by decide +kernel
theorem own_d5_34 : decode method_3_code 34 = .ok (.lushr, 1) := by decide +kernel
theorem own_d5_35 : decode method_3_code 35 = .ok (.lxor, 1) := by decide +kernel
theorem own_d5_36 : decode method_3_code 36 = .ok (.lstore 6, 2) := by decide +kernel
theorem own_d5_38 : decode method_3_code 38 = .ok (.lload 6, 2) := by decide +kernel
theorem own_d5_40 : decode method_3_code 40 = .ok (.ldc2_w 17, 3) := by decide +kernel
theorem own_d5_43 : decode method_3_code 43 = .ok (.invokestatic 13, 3) := by decide +kernel
theorem own_d5_46 : decode method_3_code 46 = .ok (.lmul, 1) := by decide +kernel
theorem own_d5_47 : decode method_3_code 47 = .ok (.lstore 8, 2) := by decide +kernel
theorem own_d5_49 : decode method_3_code 49 = .ok (.lload 8, 2) := by decide +kernel
theorem own_d5_51 : decode method_3_code 51 = .ok (.lload 8, 2) := by decide +kernel
theorem own_d5_53 : decode method_3_code 53 = .ok (.bipush 30, 2) := by decide +kernel
theorem own_d5_55 : decode method_3_code 55 = .ok (.lushr, 1) := by decide +kernel
theorem own_d5_56 : decode method_3_code 56 = .ok (.lxor, 1) := by decide +kernel
theorem own_d5_57 : decode method_3_code 57 = .ok (.lload 8, 2) := by decide +kernel
theorem own_d5_59 : decode method_3_code 59 = .ok (.bipush 60, 2) := by decide +kernel
theorem own_d5_61 : decode method_3_code 61 = .ok (.lushr, 1) := by decide +kernel
theorem own_d5_62 : decode method_3_code 62 = .ok (.lxor, 1) := by decide +kernel
theorem own_d5_63 : decode method_3_code 63 = .ok (.lreturn, 1) := by decide +kernel
theorem own_ef_rm_unmix (mM : MethodId) (x0 : Int64) : entryFrame mM #[(.long x0)] 10 = mkF mM 0 #[.val (.long x0), .second, .unset, .unset, .unset, .unset, .unset, .unset, .unset, .unset] [] := by first | (simp [entryFrame, mkF, argsToLocals, Value.category]; done) | rfl
def Q_rm_unmix (Z : State) (q : Int64) (h0 : Heap) (n0 : Nat) (vV : Option Value) (hH : Heap) (lA : List Loc) : Prop := vV = some (.long (own_unmix q)) ∧ Fr n0 lA ∧ (hH = h0)
set_option maxRecDepth 65536 in
set_option maxHeartbeats 40000000 in
theorem rm_unmix (lL : Launch) (Z : State) (a0 : Array Value) (hw : ∀ d ∈ tables_1, d.before a0 Z = true) (ws : List Jvm.Cond) (q : Int64) (h0 : Heap) (n0 : Nat) (Z0 : n0 ≤ h0.size) :
    MetFree lL (⟨"com/example/chains_to_rank/chainstorank/graph/SplitMix64NextLongPinLaw", "unmix", "(J)J"⟩ : MethodName) (head1 (Jvm.Cond.code (⟨"com/example/chains_to_rank/chainstorank/graph/SplitMix64NextLongPinLaw", "unmix", "(J)J"⟩ : MethodName) method_3_code 10 (some .long) :: ws) ({ frames := 1, cells := 0, slots := 0, locals := 17 } : Room)) (fun aA uU => aA = #[(.long q)] ∧ Z.Warmed39 uU.vm ∧ uU.heap = h0) (fun _ _ _ _ _ => True) (fun _ uU oO uU' => ∃ vV lA, oO = .returned vV ∧ Q_rm_unmix Z q h0 n0 vV uU'.heap lA ∧ FrameEnd uU oO uU' lA ({ frames := 1, cells := 0, slots := 0, locals := 17 } : Room).cells ({ frames := 1, cells := 0, slots := 0, locals := 17 } : Room).slots) := by
  refine MetFree.of_bodySF (plainFor_of_name own_pn_com_example_chains_to_rank_chainstorank_graph_SplitMix64NextLongPinLaw) hisR ?_
  intro pP eE sS mM args below meth cC s₁ Bd hml0 hP hK
  obtain ⟨rfl, hZ, hh⟩ := hP
  have hx := Bd.exec
  have hby := Bd.bytes
  have hml : cC.maxLocals = 10 := hml0
  have hown : sS.vm.findClass "com/example/chains_to_rank/chainstorank/graph/SplitMix64NextLongPinLaw" = some mM.cls := findClass_of_methodNamed Bd.named
  have hnm := (name_of_methodNamed Bd.named Bd.method).1
  have X0 : Stand pP lL eE ({ frames := 1, cells := 0, slots := 0, locals := 17 } : Room) sS mM #[(.long q)] below meth cC s₁ [] 0 0 := Stand.of_body Bd
  have e0 : s₁.heap = h0 := by rw [← hh, Bd.state]; rfl
  have N0 := Fr.nil n0
  have K0 := Keep.refl h0 ([] : List Addr)
  show own_Fin pP eE below (fun tT oO => ∃ vV lA, oO = .returned vV ∧ Q_rm_unmix Z q h0 n0 vV tT.heap lA ∧ FrameEnd sS oO tT lA ({ frames := 1, cells := 0, slots := 0, locals := 17 } : Room).cells ({ frames := 1, cells := 0, slots := 0, locals := 17 } : Room).slots) (s₁.setTop (entryFrame mM #[(.long q)] 10))
  refine own_fin (b := s₁.setTop (mkF mM 0 #[.val (.long q), .second, .unset, .unset, .unset, .unset, .unset, .unset, .unset, .unset] [])) (fun tT kK => castTop (own_ef_rm_unmix mM q) kK) ?_
  refine own_fin (b := s₁.setTop (mkF mM 12 #[.val (.long q), .second, .val (.long ((q ^^^ ((q.toUInt64 >>> ((31 : Int32) &&& 0x3f).toInt64.toUInt64).toInt64)) ^^^ ((q.toUInt64 >>> ((62 : Int32) &&& 0x3f).toInt64.toUInt64).toInt64))), .second, .unset, .unset, .unset, .unset, .unset, .unset] [])) (fun tT kK => ?_) ?_
  · show Steps pP.tables eE below (s₁.setTop (mkF mM 0 #[.val (.long q), .second, .unset, .unset, .unset, .unset, .unset, .unset, .unset, .unset] [])) tT
    refine XS.lloadN X0.here hx rfl (Jvm.hb hby own_d5_0) rfl ?_
    show Steps pP.tables eE below (s₁.setTop (mkF mM 1 #[.val (.long q), .second, .unset, .unset, .unset, .unset, .unset, .unset, .unset, .unset] [(.long q)])) tT
    refine XS.lloadN X0.here hx rfl (Jvm.hb hby own_d5_1) rfl ?_
    show Steps pP.tables eE below (s₁.setTop (mkF mM 2 #[.val (.long q), .second, .unset, .unset, .unset, .unset, .unset, .unset, .unset, .unset] [(.long q), (.long q)])) tT
    refine XS.bipush X0.here hx rfl (Jvm.hb hby own_d5_2) ?_
    show Steps pP.tables eE below (s₁.setTop (mkF mM 4 #[.val (.long q), .second, .unset, .unset, .unset, .unset, .unset, .unset, .unset, .unset] [(.int (31 : Int32)), (.long q), (.long q)])) tT
    refine XS.lushr X0.here hx rfl (Jvm.hb hby own_d5_4) rfl ?_
    show Steps pP.tables eE below (s₁.setTop (mkF mM 5 #[.val (.long q), .second, .unset, .unset, .unset, .unset, .unset, .unset, .unset, .unset] [(.long ((q.toUInt64 >>> ((31 : Int32) &&& 0x3f).toInt64.toUInt64).toInt64)), (.long q)])) tT
    refine XS.lxor X0.here hx rfl (Jvm.hb hby own_d5_5) rfl ?_
    show Steps pP.tables eE below (s₁.setTop (mkF mM 6 #[.val (.long q), .second, .unset, .unset, .unset, .unset, .unset, .unset, .unset, .unset] [(.long (q ^^^ ((q.toUInt64 >>> ((31 : Int32) &&& 0x3f).toInt64.toUInt64).toInt64)))])) tT
    refine XS.lloadN X0.here hx rfl (Jvm.hb hby own_d5_6) rfl ?_
    show Steps pP.tables eE below (s₁.setTop (mkF mM 7 #[.val (.long q), .second, .unset, .unset, .unset, .unset, .unset, .unset, .unset, .unset] [(.long q), (.long (q ^^^ ((q.toUInt64 >>> ((31 : Int32) &&& 0x3f).toInt64.toUInt64).toInt64)))])) tT
    refine XS.bipush X0.here hx rfl (Jvm.hb hby own_d5_7) ?_
    show Steps pP.tables eE below (s₁.setTop (mkF mM 9 #[.val (.long q), .second, .unset, .unset, .unset, .unset, .unset, .unset, .unset, .unset] [(.int (62 : Int32)), (.long q), (.long (q ^^^ ((q.toUInt64 >>> ((31 : Int32) &&& 0x3f).toInt64.toUInt64).toInt64)))])) tT
    refine XS.lushr X0.here hx rfl (Jvm.hb hby own_d5_9) rfl ?_
    show Steps pP.tables eE below (s₁.setTop (mkF mM 10 #[.val (.long q), .second, .unset, .unset, .unset, .unset, .unset, .unset, .unset, .unset] [(.long ((q.toUInt64 >>> ((62 : Int32) &&& 0x3f).toInt64.toUInt64).toInt64)), (.long (q ^^^ ((q.toUInt64 >>> ((31 : Int32) &&& 0x3f).toInt64.toUInt64).toInt64)))])) tT
    refine XS.lxor X0.here hx rfl (Jvm.hb hby own_d5_10) rfl ?_
    show Steps pP.tables eE below (s₁.setTop (mkF mM 11 #[.val (.long q), .second, .unset, .unset, .unset, .unset, .unset, .unset, .unset, .unset] [(.long ((q ^^^ ((q.toUInt64 >>> ((31 : Int32) &&& 0x3f).toInt64.toUInt64).toInt64)) ^^^ ((q.toUInt64 >>> ((62 : Int32) &&& 0x3f).toInt64.toUInt64).toInt64)))])) tT
    refine XS.lstoreN X0.here hx rfl (Jvm.hb hby own_d5_11) rfl (l' := #[.val (.long q), .second, .val (.long ((q ^^^ ((q.toUInt64 >>> ((31 : Int32) &&& 0x3f).toInt64.toUInt64).toInt64)) ^^^ ((q.toUInt64 >>> ((62 : Int32) &&& 0x3f).toInt64.toUInt64).toInt64))), .second, .unset, .unset, .unset, .unset, .unset, .unset]) rfl ?_
    show Steps pP.tables eE below (s₁.setTop (mkF mM 12 #[.val (.long q), .second, .val (.long ((q ^^^ ((q.toUInt64 >>> ((31 : Int32) &&& 0x3f).toInt64.toUInt64).toInt64)) ^^^ ((q.toUInt64 >>> ((62 : Int32) &&& 0x3f).toInt64.toUInt64).toInt64))), .second, .unset, .unset, .unset, .unset, .unset, .unset] [])) tT
    exact kK
  show own_Fin pP eE below _ (s₁.setTop (mkF mM 12 #[.val (.long q), .second, .val (.long ((q ^^^ ((q.toUInt64 >>> ((31 : Int32) &&& 0x3f).toInt64.toUInt64).toInt64)) ^^^ ((q.toUInt64 >>> ((62 : Int32) &&& 0x3f).toInt64.toUInt64).toInt64))), .second, .unset, .unset, .unset, .unset, .unset, .unset] []))
  generalize hzd : ((q ^^^ ((q.toUInt64 >>> ((31 : Int32) &&& 0x3f).toInt64.toUInt64).toInt64)) ^^^ ((q.toUInt64 >>> ((62 : Int32) &&& 0x3f).toInt64.toUInt64).toInt64)) = zd
  show own_Fin pP eE below _ (s₁.setTop (mkF mM 12 #[.val (.long q), .second, .val (.long zd), .second, .unset, .unset, .unset, .unset, .unset, .unset] []))
  refine own_fin (b := s₁.setTop (mkF mM 16 #[.val (.long q), .second, .val (.long zd), .second, .unset, .unset, .unset, .unset, .unset, .unset] [(.long (-7723592293110705685 : Int64)), (.long zd)])) (fun tT kK => ?_) ?_
  · show Steps pP.tables eE below (s₁.setTop (mkF mM 12 #[.val (.long q), .second, .val (.long zd), .second, .unset, .unset, .unset, .unset, .unset, .unset] [])) tT
    refine XS.lloadN X0.here hx rfl (Jvm.hb hby own_d5_12) rfl ?_
    show Steps pP.tables eE below (s₁.setTop (mkF mM 13 #[.val (.long q), .second, .val (.long zd), .second, .unset, .unset, .unset, .unset, .unset, .unset] [(.long zd)])) tT
    refine X0.ldc2Long hx hown (mvT hZ (hw _ (List.mem_of_getElem? (i := 25) rfl))) (g := (mkF mM 13 #[.val (.long q), .second, .val (.long zd), .second, .unset, .unset, .unset, .unset, .unset, .unset] [(.long zd)])) rfl (Jvm.hb hby own_d5_13) _ ?_
    show Steps pP.tables eE below (s₁.setTop (mkF mM 16 #[.val (.long q), .second, .val (.long zd), .second, .unset, .unset, .unset, .unset, .unset, .unset] [(.long (-7723592293110705685 : Int64)), (.long zd)])) tT
    exact kK
  obtain ⟨_, _, ⟨T1_, L1_, k1_, n1_⟩, -, X1_, ⟨Lc1_, hQ1_, l1_, y1_, z1_⟩, st1_⟩ := Jvm.LawKit.callS X0 hx (y := (⟨"com/example/chains_to_rank/chainstorank/graph/SplitMix64NextLongPinLaw", "inverseOfOdd", "(J)J"⟩ : MethodName)) hown (mvT hZ (hw _ (List.mem_of_getElem? (i := 20) rfl))) (mvT hZ (hw _ (List.mem_of_getElem? (i := 21) rfl))) (mvT hZ (hw _ (List.mem_of_getElem? (i := 22) rfl))) (mvT hZ (hw _ (List.mem_of_getElem? (i := 23) rfl))) (by decide) (backOf (W := 2) (rm_inv lL Z a0 hw [] (-7723592293110705685 : Int64) h0 n0 (Nat.le_trans Z0 K0.1) ) hZ (hw _ (List.mem_of_getElem? (i := 23) rfl)) (hw _ (List.mem_of_getElem? (i := 22) rfl)) (by decide) (by decide)) (g := (mkF mM 16 #[.val (.long q), .second, .val (.long zd), .second, .unset, .unset, .unset, .unset, .unset, .unset] [(.long (-7723592293110705685 : Int64)), (.long zd)])) rfl (by rw [hml]; rfl) (argsL := [(.long (-7723592293110705685 : Int64))]) (rest := [(.long zd)]) (lenOf own_pd0 rfl) rfl (by show 2 * 0 + _ ≤ _; exact Nat.le_of_eq rfl) (Jvm.hb hby own_d5_16) (fun _ _ => ⟨rfl, e0, (by decide : 0 + 0 ≤ _), (by decide : 0 + 0 ≤ _)⟩)
  dsimp only [Pt.U, Pt.locs, Pt.cells, Pt.slots] at X1_ l1_ y1_ z1_ st1_ hQ1_
  subst l1_ y1_ z1_
  obtain ⟨rfl, N1_q, p1__0⟩ := hQ1_
  have N1_ := Fr.app N0 N1_q
  refine own_fin (fun tT kK => st1_ tT kK) ?_
  show own_Fin pP eE below _ (T1_.setTop (mkF mM 19 #[.val (.long q), .second, .val (.long zd), .second, .unset, .unset, .unset, .unset, .unset, .unset] [(.long (own_inv (-7723592293110705685 : Int64))), (.long zd)]))
  refine own_fin (b := T1_.setTop (mkF mM 22 #[.val (.long q), .second, .val (.long zd), .second, .val (.long (zd * (own_inv (-7723592293110705685 : Int64)))), .second, .unset, .unset, .unset, .unset] [])) (fun tT kK => ?_) ?_
  · show Steps pP.tables eE below (T1_.setTop (mkF mM 19 #[.val (.long q), .second, .val (.long zd), .second, .unset, .unset, .unset, .unset, .unset, .unset] [(.long (own_inv (-7723592293110705685 : Int64))), (.long zd)])) tT
    refine XS.lmul X1_.here hx rfl (Jvm.hb hby own_d5_19) rfl ?_
    show Steps pP.tables eE below (T1_.setTop (mkF mM 20 #[.val (.long q), .second, .val (.long zd), .second, .unset, .unset, .unset, .unset, .unset, .unset] [(.long (zd * (own_inv (-7723592293110705685 : Int64))))])) tT
    refine XS.lstore X1_.here hx rfl (Jvm.hb hby own_d5_20) rfl (l' := #[.val (.long q), .second, .val (.long zd), .second, .val (.long (zd * (own_inv (-7723592293110705685 : Int64)))), .second, .unset, .unset, .unset, .unset]) rfl ?_
    show Steps pP.tables eE below (T1_.setTop (mkF mM 22 #[.val (.long q), .second, .val (.long zd), .second, .val (.long (zd * (own_inv (-7723592293110705685 : Int64)))), .second, .unset, .unset, .unset, .unset] [])) tT
    exact kK
  show own_Fin pP eE below _ (T1_.setTop (mkF mM 22 #[.val (.long q), .second, .val (.long zd), .second, .val (.long (zd * (own_inv (-7723592293110705685 : Int64)))), .second, .unset, .unset, .unset, .unset] []))
  generalize hzc : (zd * (own_inv (-7723592293110705685 : Int64))) = zc
  show own_Fin pP eE below _ (T1_.setTop (mkF mM 22 #[.val (.long q), .second, .val (.long zd), .second, .val (.long zc), .second, .unset, .unset, .unset, .unset] []))
  refine own_fin (b := T1_.setTop (mkF mM 38 #[.val (.long q), .second, .val (.long zd), .second, .val (.long zc), .second, .val (.long ((zc ^^^ ((zc.toUInt64 >>> ((27 : Int32) &&& 0x3f).toInt64.toUInt64).toInt64)) ^^^ ((zc.toUInt64 >>> ((54 : Int32) &&& 0x3f).toInt64.toUInt64).toInt64))), .second, .unset, .unset] [])) (fun tT kK => ?_) ?_
  · show Steps pP.tables eE below (T1_.setTop (mkF mM 22 #[.val (.long q), .second, .val (.long zd), .second, .val (.long zc), .second, .unset, .unset, .unset, .unset] [])) tT
    refine XS.lload X1_.here hx rfl (Jvm.hb hby own_d5_22) rfl ?_
    show Steps pP.tables eE below (T1_.setTop (mkF mM 24 #[.val (.long q), .second, .val (.long zd), .second, .val (.long zc), .second, .unset, .unset, .unset, .unset] [(.long zc)])) tT
    refine XS.lload X1_.here hx rfl (Jvm.hb hby own_d5_24) rfl ?_
    show Steps pP.tables eE below (T1_.setTop (mkF mM 26 #[.val (.long q), .second, .val (.long zd), .second, .val (.long zc), .second, .unset, .unset, .unset, .unset] [(.long zc), (.long zc)])) tT
    refine XS.bipush X1_.here hx rfl (Jvm.hb hby own_d5_26) ?_
    show Steps pP.tables eE below (T1_.setTop (mkF mM 28 #[.val (.long q), .second, .val (.long zd), .second, .val (.long zc), .second, .unset, .unset, .unset, .unset] [(.int (27 : Int32)), (.long zc), (.long zc)])) tT
    refine XS.lushr X1_.here hx rfl (Jvm.hb hby own_d5_28) rfl ?_
    show Steps pP.tables eE below (T1_.setTop (mkF mM 29 #[.val (.long q), .second, .val (.long zd), .second, .val (.long zc), .second, .unset, .unset, .unset, .unset] [(.long ((zc.toUInt64 >>> ((27 : Int32) &&& 0x3f).toInt64.toUInt64).toInt64)), (.long zc)])) tT
    refine XS.lxor X1_.here hx rfl (Jvm.hb hby own_d5_29) rfl ?_
    show Steps pP.tables eE below (T1_.setTop (mkF mM 30 #[.val (.long q), .second, .val (.long zd), .second, .val (.long zc), .second, .unset, .unset, .unset, .unset] [(.long (zc ^^^ ((zc.toUInt64 >>> ((27 : Int32) &&& 0x3f).toInt64.toUInt64).toInt64)))])) tT
    refine XS.lload X1_.here hx rfl (Jvm.hb hby own_d5_30) rfl ?_
    show Steps pP.tables eE below (T1_.setTop (mkF mM 32 #[.val (.long q), .second, .val (.long zd), .second, .val (.long zc), .second, .unset, .unset, .unset, .unset] [(.long zc), (.long (zc ^^^ ((zc.toUInt64 >>> ((27 : Int32) &&& 0x3f).toInt64.toUInt64).toInt64)))])) tT
    refine XS.bipush X1_.here hx rfl (Jvm.hb hby own_d5_32) ?_
    show Steps pP.tables eE below (T1_.setTop (mkF mM 34 #[.val (.long q), .second, .val (.long zd), .second, .val (.long zc), .second, .unset, .unset, .unset, .unset] [(.int (54 : Int32)), (.long zc), (.long (zc ^^^ ((zc.toUInt64 >>> ((27 : Int32) &&& 0x3f).toInt64.toUInt64).toInt64)))])) tT
    refine XS.lushr X1_.here hx rfl (Jvm.hb hby own_d5_34) rfl ?_
    show Steps pP.tables eE below (T1_.setTop (mkF mM 35 #[.val (.long q), .second, .val (.long zd), .second, .val (.long zc), .second, .unset, .unset, .unset, .unset] [(.long ((zc.toUInt64 >>> ((54 : Int32) &&& 0x3f).toInt64.toUInt64).toInt64)), (.long (zc ^^^ ((zc.toUInt64 >>> ((27 : Int32) &&& 0x3f).toInt64.toUInt64).toInt64)))])) tT
    refine XS.lxor X1_.here hx rfl (Jvm.hb hby own_d5_35) rfl ?_
    show Steps pP.tables eE below (T1_.setTop (mkF mM 36 #[.val (.long q), .second, .val (.long zd), .second, .val (.long zc), .second, .unset, .unset, .unset, .unset] [(.long ((zc ^^^ ((zc.toUInt64 >>> ((27 : Int32) &&& 0x3f).toInt64.toUInt64).toInt64)) ^^^ ((zc.toUInt64 >>> ((54 : Int32) &&& 0x3f).toInt64.toUInt64).toInt64)))])) tT
    refine XS.lstore X1_.here hx rfl (Jvm.hb hby own_d5_36) rfl (l' := #[.val (.long q), .second, .val (.long zd), .second, .val (.long zc), .second, .val (.long ((zc ^^^ ((zc.toUInt64 >>> ((27 : Int32) &&& 0x3f).toInt64.toUInt64).toInt64)) ^^^ ((zc.toUInt64 >>> ((54 : Int32) &&& 0x3f).toInt64.toUInt64).toInt64))), .second, .unset, .unset]) rfl ?_
    show Steps pP.tables eE below (T1_.setTop (mkF mM 38 #[.val (.long q), .second, .val (.long zd), .second, .val (.long zc), .second, .val (.long ((zc ^^^ ((zc.toUInt64 >>> ((27 : Int32) &&& 0x3f).toInt64.toUInt64).toInt64)) ^^^ ((zc.toUInt64 >>> ((54 : Int32) &&& 0x3f).toInt64.toUInt64).toInt64))), .second, .unset, .unset] [])) tT
    exact kK
  show own_Fin pP eE below _ (T1_.setTop (mkF mM 38 #[.val (.long q), .second, .val (.long zd), .second, .val (.long zc), .second, .val (.long ((zc ^^^ ((zc.toUInt64 >>> ((27 : Int32) &&& 0x3f).toInt64.toUInt64).toInt64)) ^^^ ((zc.toUInt64 >>> ((54 : Int32) &&& 0x3f).toInt64.toUInt64).toInt64))), .second, .unset, .unset] []))
  generalize hzb : ((zc ^^^ ((zc.toUInt64 >>> ((27 : Int32) &&& 0x3f).toInt64.toUInt64).toInt64)) ^^^ ((zc.toUInt64 >>> ((54 : Int32) &&& 0x3f).toInt64.toUInt64).toInt64)) = zb
  show own_Fin pP eE below _ (T1_.setTop (mkF mM 38 #[.val (.long q), .second, .val (.long zd), .second, .val (.long zc), .second, .val (.long zb), .second, .unset, .unset] []))
  refine own_fin (b := T1_.setTop (mkF mM 43 #[.val (.long q), .second, .val (.long zd), .second, .val (.long zc), .second, .val (.long zb), .second, .unset, .unset] [(.long (-4658895280553007687 : Int64)), (.long zb)])) (fun tT kK => ?_) ?_
  · show Steps pP.tables eE below (T1_.setTop (mkF mM 38 #[.val (.long q), .second, .val (.long zd), .second, .val (.long zc), .second, .val (.long zb), .second, .unset, .unset] [])) tT
    refine XS.lload X1_.here hx rfl (Jvm.hb hby own_d5_38) rfl ?_
    show Steps pP.tables eE below (T1_.setTop (mkF mM 40 #[.val (.long q), .second, .val (.long zd), .second, .val (.long zc), .second, .val (.long zb), .second, .unset, .unset] [(.long zb)])) tT
    refine X1_.ldc2Long hx hown (mvT hZ (hw _ (List.mem_of_getElem? (i := 19) rfl))) (g := (mkF mM 40 #[.val (.long q), .second, .val (.long zd), .second, .val (.long zc), .second, .val (.long zb), .second, .unset, .unset] [(.long zb)])) rfl (Jvm.hb hby own_d5_40) _ ?_
    show Steps pP.tables eE below (T1_.setTop (mkF mM 43 #[.val (.long q), .second, .val (.long zd), .second, .val (.long zc), .second, .val (.long zb), .second, .unset, .unset] [(.long (-4658895280553007687 : Int64)), (.long zb)])) tT
    exact kK
  obtain ⟨_, _, ⟨T2_, L2_, k2_, n2_⟩, -, X2_, ⟨Lc2_, hQ2_, l2_, y2_, z2_⟩, st2_⟩ := Jvm.LawKit.callS X1_ hx (y := (⟨"com/example/chains_to_rank/chainstorank/graph/SplitMix64NextLongPinLaw", "inverseOfOdd", "(J)J"⟩ : MethodName)) hown (mvT hZ (hw _ (List.mem_of_getElem? (i := 20) rfl))) (mvT hZ (hw _ (List.mem_of_getElem? (i := 21) rfl))) (mvT hZ (hw _ (List.mem_of_getElem? (i := 22) rfl))) (mvT hZ (hw _ (List.mem_of_getElem? (i := 23) rfl))) (by decide) (backOf (W := 2) (rm_inv lL Z a0 hw [] (-4658895280553007687 : Int64) h0 n0 (Nat.le_trans Z0 K0.1) ) hZ (hw _ (List.mem_of_getElem? (i := 23) rfl)) (hw _ (List.mem_of_getElem? (i := 22) rfl)) (by decide) (by decide)) (g := (mkF mM 43 #[.val (.long q), .second, .val (.long zd), .second, .val (.long zc), .second, .val (.long zb), .second, .unset, .unset] [(.long (-4658895280553007687 : Int64)), (.long zb)])) rfl (by rw [hml]; rfl) (argsL := [(.long (-4658895280553007687 : Int64))]) (rest := [(.long zb)]) (lenOf own_pd0 rfl) rfl (by show 2 * 0 + _ ≤ _; exact Nat.le_of_eq rfl) (Jvm.hb hby own_d5_43) (fun _ _ => ⟨rfl, p1__0, (by decide : 0 + 0 ≤ _), (by decide : 0 + 0 ≤ _)⟩)
  dsimp only [Pt.U, Pt.locs, Pt.cells, Pt.slots] at X2_ l2_ y2_ z2_ st2_ hQ2_
  subst l2_ y2_ z2_
  obtain ⟨rfl, N2_q, p2__0⟩ := hQ2_
  have N2_ := Fr.app N1_ N2_q
  refine own_fin (fun tT kK => st2_ tT kK) ?_
  show own_Fin pP eE below _ (T2_.setTop (mkF mM 46 #[.val (.long q), .second, .val (.long zd), .second, .val (.long zc), .second, .val (.long zb), .second, .unset, .unset] [(.long (own_inv (-4658895280553007687 : Int64))), (.long zb)]))
  refine own_fin (b := T2_.setTop (mkF mM 49 #[.val (.long q), .second, .val (.long zd), .second, .val (.long zc), .second, .val (.long zb), .second, .val (.long (zb * (own_inv (-4658895280553007687 : Int64)))), .second] [])) (fun tT kK => ?_) ?_
  · show Steps pP.tables eE below (T2_.setTop (mkF mM 46 #[.val (.long q), .second, .val (.long zd), .second, .val (.long zc), .second, .val (.long zb), .second, .unset, .unset] [(.long (own_inv (-4658895280553007687 : Int64))), (.long zb)])) tT
    refine XS.lmul X2_.here hx rfl (Jvm.hb hby own_d5_46) rfl ?_
    show Steps pP.tables eE below (T2_.setTop (mkF mM 47 #[.val (.long q), .second, .val (.long zd), .second, .val (.long zc), .second, .val (.long zb), .second, .unset, .unset] [(.long (zb * (own_inv (-4658895280553007687 : Int64))))])) tT
    refine XS.lstore X2_.here hx rfl (Jvm.hb hby own_d5_47) rfl (l' := #[.val (.long q), .second, .val (.long zd), .second, .val (.long zc), .second, .val (.long zb), .second, .val (.long (zb * (own_inv (-4658895280553007687 : Int64)))), .second]) rfl ?_
    show Steps pP.tables eE below (T2_.setTop (mkF mM 49 #[.val (.long q), .second, .val (.long zd), .second, .val (.long zc), .second, .val (.long zb), .second, .val (.long (zb * (own_inv (-4658895280553007687 : Int64)))), .second] [])) tT
    exact kK
  show own_Fin pP eE below _ (T2_.setTop (mkF mM 49 #[.val (.long q), .second, .val (.long zd), .second, .val (.long zc), .second, .val (.long zb), .second, .val (.long (zb * (own_inv (-4658895280553007687 : Int64)))), .second] []))
  generalize hza : (zb * (own_inv (-4658895280553007687 : Int64))) = za
  show own_Fin pP eE below _ (T2_.setTop (mkF mM 49 #[.val (.long q), .second, .val (.long zd), .second, .val (.long zc), .second, .val (.long zb), .second, .val (.long za), .second] []))
  refine own_fin (b := T2_.setTop (mkF mM 63 #[.val (.long q), .second, .val (.long zd), .second, .val (.long zc), .second, .val (.long zb), .second, .val (.long za), .second] [(.long ((za ^^^ ((za.toUInt64 >>> ((30 : Int32) &&& 0x3f).toInt64.toUInt64).toInt64)) ^^^ ((za.toUInt64 >>> ((60 : Int32) &&& 0x3f).toInt64.toUInt64).toInt64)))])) (fun tT kK => ?_) ?_
  · show Steps pP.tables eE below (T2_.setTop (mkF mM 49 #[.val (.long q), .second, .val (.long zd), .second, .val (.long zc), .second, .val (.long zb), .second, .val (.long za), .second] [])) tT
    refine XS.lload X2_.here hx rfl (Jvm.hb hby own_d5_49) rfl ?_
    show Steps pP.tables eE below (T2_.setTop (mkF mM 51 #[.val (.long q), .second, .val (.long zd), .second, .val (.long zc), .second, .val (.long zb), .second, .val (.long za), .second] [(.long za)])) tT
    refine XS.lload X2_.here hx rfl (Jvm.hb hby own_d5_51) rfl ?_
    show Steps pP.tables eE below (T2_.setTop (mkF mM 53 #[.val (.long q), .second, .val (.long zd), .second, .val (.long zc), .second, .val (.long zb), .second, .val (.long za), .second] [(.long za), (.long za)])) tT
    refine XS.bipush X2_.here hx rfl (Jvm.hb hby own_d5_53) ?_
    show Steps pP.tables eE below (T2_.setTop (mkF mM 55 #[.val (.long q), .second, .val (.long zd), .second, .val (.long zc), .second, .val (.long zb), .second, .val (.long za), .second] [(.int (30 : Int32)), (.long za), (.long za)])) tT
    refine XS.lushr X2_.here hx rfl (Jvm.hb hby own_d5_55) rfl ?_
    show Steps pP.tables eE below (T2_.setTop (mkF mM 56 #[.val (.long q), .second, .val (.long zd), .second, .val (.long zc), .second, .val (.long zb), .second, .val (.long za), .second] [(.long ((za.toUInt64 >>> ((30 : Int32) &&& 0x3f).toInt64.toUInt64).toInt64)), (.long za)])) tT
    refine XS.lxor X2_.here hx rfl (Jvm.hb hby own_d5_56) rfl ?_
    show Steps pP.tables eE below (T2_.setTop (mkF mM 57 #[.val (.long q), .second, .val (.long zd), .second, .val (.long zc), .second, .val (.long zb), .second, .val (.long za), .second] [(.long (za ^^^ ((za.toUInt64 >>> ((30 : Int32) &&& 0x3f).toInt64.toUInt64).toInt64)))])) tT
    refine XS.lload X2_.here hx rfl (Jvm.hb hby own_d5_57) rfl ?_
    show Steps pP.tables eE below (T2_.setTop (mkF mM 59 #[.val (.long q), .second, .val (.long zd), .second, .val (.long zc), .second, .val (.long zb), .second, .val (.long za), .second] [(.long za), (.long (za ^^^ ((za.toUInt64 >>> ((30 : Int32) &&& 0x3f).toInt64.toUInt64).toInt64)))])) tT
    refine XS.bipush X2_.here hx rfl (Jvm.hb hby own_d5_59) ?_
    show Steps pP.tables eE below (T2_.setTop (mkF mM 61 #[.val (.long q), .second, .val (.long zd), .second, .val (.long zc), .second, .val (.long zb), .second, .val (.long za), .second] [(.int (60 : Int32)), (.long za), (.long (za ^^^ ((za.toUInt64 >>> ((30 : Int32) &&& 0x3f).toInt64.toUInt64).toInt64)))])) tT
    refine XS.lushr X2_.here hx rfl (Jvm.hb hby own_d5_61) rfl ?_
    show Steps pP.tables eE below (T2_.setTop (mkF mM 62 #[.val (.long q), .second, .val (.long zd), .second, .val (.long zc), .second, .val (.long zb), .second, .val (.long za), .second] [(.long ((za.toUInt64 >>> ((60 : Int32) &&& 0x3f).toInt64.toUInt64).toInt64)), (.long (za ^^^ ((za.toUInt64 >>> ((30 : Int32) &&& 0x3f).toInt64.toUInt64).toInt64)))])) tT
    refine XS.lxor X2_.here hx rfl (Jvm.hb hby own_d5_62) rfl ?_
    show Steps pP.tables eE below (T2_.setTop (mkF mM 63 #[.val (.long q), .second, .val (.long zd), .second, .val (.long zc), .second, .val (.long zb), .second, .val (.long za), .second] [(.long ((za ^^^ ((za.toUInt64 >>> ((30 : Int32) &&& 0x3f).toInt64.toUInt64).toInt64)) ^^^ ((za.toUInt64 >>> ((60 : Int32) &&& 0x3f).toInt64.toUInt64).toInt64)))])) tT
    exact kK
  obtain ⟨fs, hr, hrun, hended, hW, hsame⟩ := X2_.leave (v := some (.long ((za ^^^ ((za.toUInt64 >>> ((30 : Int32) &&& 0x3f).toInt64.toUInt64).toInt64)) ^^^ ((za.toUInt64 >>> ((60 : Int32) &&& 0x3f).toInt64.toUInt64).toInt64)))) (fun h => by rw [Bd.returns] at h; cases h)
  refine ⟨_, _, ?_, hrun, hended, _, _, rfl, ?_, ⟨_, rfl⟩, hW, hsame.mono (by decide) (by decide)⟩
  · show Steps pP.tables eE below (T2_.setTop (mkF mM 63 #[.val (.long q), .second, .val (.long zd), .second, .val (.long zc), .second, .val (.long zb), .second, .val (.long za), .second] [(.long ((za ^^^ ((za.toUInt64 >>> ((30 : Int32) &&& 0x3f).toInt64.toUInt64).toInt64)) ^^^ ((za.toUInt64 >>> ((60 : Int32) &&& 0x3f).toInt64.toUInt64).toInt64)))])) _
    exact retOut X2_ hx Bd.returns rfl (Or.inr (Or.inl ⟨rfl, rfl, _, rfl⟩)) (Jvm.hb hby own_d5_63) hr
  · show Q_rm_unmix Z q h0 n0 _ T2_.heap _
    rw [p2__0]
    exact ⟨by subst hza hzb hzc hzd; rw [own_sy_eq _ 31 62 31 62 (by decide) (by decide), own_sy_eq _ 27 54 27 54 (by decide) (by decide), own_sy_eq _ 30 60 30 60 (by decide) (by decide)]; rfl, N2_, rfl⟩
theorem own_pd1 : parseMethodDescriptor "(J)V" = some ⟨[.long], none⟩ := by decide +kernel
theorem own_pd2 : parseMethodDescriptor "()J" = some ⟨[], some .long⟩ := by decide +kernel
theorem own_ef_rm0 (mM : MethodId) (x0 : Int64) : entryFrame mM #[(.long x0)] maxLocals = mkF mM 0 #[.val (.long x0), .second, .unset, .unset, .unset, .unset, .unset, .unset] [] := by first | (simp [entryFrame, mkF, argsToLocals, Value.category, maxLocals]; done) | rfl
def Q_rm0 (Z : State) (q1 : Int64) (h0 : Heap) (n0 : Nat) (vV : Option Value) (hH : Heap) (lA : List Loc) : Prop := vV = some (.int (1 : Int32)) ∧ Fr n0 lA
set_option maxRecDepth 65536 in
set_option maxHeartbeats 40000000 in
theorem rm0 (lL : Launch) (Z : State) (a0 : Array Value) (hw : ∀ d ∈ tables_1, d.before a0 Z = true) (ws : List Jvm.Cond) (q1 : Int64) (h0 : Heap) (n0 : Nat) (Z0 : n0 ≤ h0.size) :
    MetFree lL x (head1 (Jvm.Cond.code x code maxLocals ret :: ws) room_1) (fun aA uU => aA = #[(.long q1)] ∧ Z.Warmed39 uU.vm ∧ uU.heap = h0) (fun _ _ _ _ _ => True) (fun _ uU oO uU' => ∃ vV lA, oO = .returned vV ∧ Q_rm0 Z q1 h0 n0 vV uU'.heap lA ∧ FrameEnd uU oO uU' lA room_1.cells room_1.slots) := by
  refine MetFree.of_bodySF (plainFor_of_name own_pn_com_example_chains_to_rank_chainstorank_graph_SplitMix64NextLongPinLaw) hisR ?_
  intro pP eE sS mM args below meth cC s₁ Bd hml0 hP hK
  obtain ⟨rfl, hZ, hh⟩ := hP
  have hx := Bd.exec
  have hby := Bd.bytes
  have hml : cC.maxLocals = 8 := hml0
  have hown : sS.vm.findClass "com/example/chains_to_rank/chainstorank/graph/SplitMix64NextLongPinLaw" = some mM.cls := findClass_of_methodNamed Bd.named
  have hnm := (name_of_methodNamed Bd.named Bd.method).1
  have X0 : Stand pP lL eE room_1 sS mM #[(.long q1)] below meth cC s₁ [] 0 0 := Stand.of_body Bd
  have e0 : s₁.heap = h0 := by rw [← hh, Bd.state]; rfl
  have N0 := Fr.nil n0
  have K0 := Keep.refl h0 ([] : List Addr)
  show own_Fin pP eE below (fun tT oO => ∃ vV lA, oO = .returned vV ∧ Q_rm0 Z q1 h0 n0 vV tT.heap lA ∧ FrameEnd sS oO tT lA room_1.cells room_1.slots) (s₁.setTop (entryFrame mM #[(.long q1)] maxLocals))
  refine own_fin (b := s₁.setTop (mkF mM 0 #[.val (.long q1), .second, .unset, .unset, .unset, .unset, .unset, .unset] [])) (fun tT kK => castTop (own_ef_rm0 mM q1) kK) ?_
  obtain ⟨T1_, h1_, X1_, e1_, E1_, A1_, D1_, -, st1_⟩ := newO X0 hx hZ hown (hw _ (List.mem_of_getElem? (i := 0) rfl)) (hw _ (List.mem_of_getElem? (i := 1) rfl)) (hw _ (List.mem_of_getElem? (i := 2) rfl)) e0 (g := (mkF mM 0 #[.val (.long q1), .second, .unset, .unset, .unset, .unset, .unset, .unset] [])) rfl (Jvm.hb hby at_0) (by decide) (by decide)
  obtain ⟨b1_, g1_⟩ : ∃ z, z = h0.size := ⟨_, rfl⟩
  rw [← g1_] at A1_ D1_ st1_
  have sz_b1_ : h0.size ≤ b1_ := Nat.le_trans K0.1 (Nat.le_of_eq g1_.symm)
  have ge_b1_ : n0 ≤ b1_ := Nat.le_trans Z0 sz_b1_
  have K1_ := K0.ext E1_
  have F1__state : Fld Z h1_ b1_ "com/example/chains_to_rank/chainstorank/graph/SplitMix64" "state" "J" (.long (0 : Int64)) := D1_ (Or.inl (hw _ (List.mem_of_getElem? (i := 10) rfl))) (ty := .long) (by decide)
  refine own_fin st1_ ?_
  show own_Fin pP eE below _ (T1_.setTop (mkF mM 3 #[.val (.long q1), .second, .unset, .unset, .unset, .unset, .unset, .unset] [(.ref b1_)]))
  refine own_fin (b := T1_.setTop (mkF mM 5 #[.val (.long q1), .second, .unset, .unset, .unset, .unset, .unset, .unset] [(.long q1), (.ref b1_), (.ref b1_)])) (fun tT kK => ?_) ?_
  · show Steps pP.tables eE below (T1_.setTop (mkF mM 3 #[.val (.long q1), .second, .unset, .unset, .unset, .unset, .unset, .unset] [(.ref b1_)])) tT
    refine XS.dup X1_.here hx rfl (Jvm.hb hby at_3) rfl rfl ?_
    show Steps pP.tables eE below (T1_.setTop (mkF mM 4 #[.val (.long q1), .second, .unset, .unset, .unset, .unset, .unset, .unset] [(.ref b1_), (.ref b1_)])) tT
    refine XS.lloadN X1_.here hx rfl (Jvm.hb hby at_4) rfl ?_
    show Steps pP.tables eE below (T1_.setTop (mkF mM 5 #[.val (.long q1), .second, .unset, .unset, .unset, .unset, .unset, .unset] [(.long q1), (.ref b1_), (.ref b1_)])) tT
    exact kK
  obtain ⟨_, _, ⟨T2_, L2_, k2_, n2_⟩, -, X2_, ⟨Lc2_, hQ2_, l2_, y2_, z2_⟩, st2_⟩ := X1_.specialBack hx (y := (⟨"com/example/chains_to_rank/chainstorank/graph/SplitMix64", "<init>", "(J)V"⟩ : MethodName)) rfl hown (mvT hZ (hw _ (List.mem_of_getElem? (i := 3) rfl))) (mvT hZ (hw _ (List.mem_of_getElem? (i := 4) rfl))) (mvT hZ (hw _ (List.mem_of_getElem? (i := 5) rfl))) (by decide) (backOf (W := 1) (rm_init lL Z a0 hw [] b1_ q1 h1_ n0 (Nat.le_trans Z0 K1_.1) A1_ F1__state ge_b1_) hZ (hw _ (List.mem_of_getElem? (i := 5) rfl)) (hw _ (List.mem_of_getElem? (i := 2) rfl)) (by decide) (by decide)) (g := (mkF mM 5 #[.val (.long q1), .second, .unset, .unset, .unset, .unset, .unset, .unset] [(.long q1), (.ref b1_), (.ref b1_)])) rfl (by rw [hml]; rfl) (Steps.refl _) (a := b1_) (argsL := [(.long q1)]) (rest := [(.ref b1_)]) (lenOf own_pd1 rfl) rfl (by show 2 * 0 + _ ≤ _; exact Nat.le_of_eq rfl) (Jvm.hb hby at_5) (fun _ _ => ⟨rfl, e1_, (by decide : 1 + 0 ≤ _), (by decide : 1 + 0 ≤ _)⟩)
  dsimp only [Pt.U, Pt.locs, Pt.cells, Pt.slots] at X2_ l2_ y2_ z2_ st2_ hQ2_
  subst l2_ y2_ z2_
  obtain ⟨rfl, N2_q, p2__0, p2__1, p2__2⟩ := hQ2_
  have N2_ := Fr.app N0 N2_q
  have fc3_ := A1_.keep p2__0
  have K2_ := K1_.trans p2__0 (allS (Or.inr sz_b1_) all0)
  refine own_fin (fun tT kK => st2_.trans kK) ?_
  show own_Fin pP eE below _ (T2_.setTop (mkF mM 8 #[.val (.long q1), .second, .unset, .unset, .unset, .unset, .unset, .unset] [(.ref b1_)]))
  refine own_fin (b := T2_.setTop (mkF mM 10 #[.val (.long q1), .second, .val (.ref b1_), .unset, .unset, .unset, .unset, .unset] [(.ref b1_)])) (fun tT kK => ?_) ?_
  · show Steps pP.tables eE below (T2_.setTop (mkF mM 8 #[.val (.long q1), .second, .unset, .unset, .unset, .unset, .unset, .unset] [(.ref b1_)])) tT
    refine XS.astoreN X2_.here hx rfl (Jvm.hb hby at_8) rfl rfl (l' := #[.val (.long q1), .second, .val (.ref b1_), .unset, .unset, .unset, .unset, .unset]) rfl ?_
    show Steps pP.tables eE below (T2_.setTop (mkF mM 9 #[.val (.long q1), .second, .val (.ref b1_), .unset, .unset, .unset, .unset, .unset] [])) tT
    refine XS.aloadN X2_.here hx rfl (Jvm.hb hby at_9) rfl rfl ?_
    show Steps pP.tables eE below (T2_.setTop (mkF mM 10 #[.val (.long q1), .second, .val (.ref b1_), .unset, .unset, .unset, .unset, .unset] [(.ref b1_)])) tT
    exact kK
  obtain ⟨cq4_, kq4_, q4_a, q4_b, q4_c⟩ := isOf hZ rfl p2__1
  obtain ⟨_, _, ⟨T4_, L4_, k4_, n4_⟩, -, X4_, ⟨Lc4_, hQ4_, l4_, y4_, z4_⟩, st4_⟩ := X2_.virtualBack hx (y := (⟨"com/example/chains_to_rank/chainstorank/graph/SplitMix64", "nextLong", "()J"⟩ : MethodName)) (z := (⟨"com/example/chains_to_rank/chainstorank/graph/SplitMix64", "nextLong", "()J"⟩ : MethodName)) hown (mvT hZ (hw _ (List.mem_of_getElem? (i := 11) rfl))) (mvT hZ (hw _ (List.mem_of_getElem? (i := 12) rfl))) (notFace_of_selects (args := #[]) (mvT hZ (hw _ (List.mem_of_getElem? (i := 14) rfl)))) (mvT hZ (hw _ (List.mem_of_getElem? (i := 14) rfl))) (mvT hZ (hw _ (List.mem_of_getElem? (i := 13) rfl))) (by decide) (backOf (W := 0) (rm_next lL Z a0 hw [] b1_ q1 T2_.heap n0 (Nat.le_trans Z0 K2_.1) p2__1 p2__2 ge_b1_) hZ (hw _ (List.mem_of_getElem? (i := 15) rfl)) (hw _ (List.mem_of_getElem? (i := 2) rfl)) (by decide) (by decide)) q4_a q4_c (g := (mkF mM 10 #[.val (.long q1), .second, .val (.ref b1_), .unset, .unset, .unset, .unset, .unset] [(.ref b1_)])) rfl (by rw [hml]; rfl) (Steps.refl _) (argsL := []) (rest := []) (lenOf own_pd2 rfl) rfl (by show 2 * 0 + _ ≤ _; exact Nat.le_of_eq rfl) (Jvm.hb hby at_10) (fun _ _ => ⟨rfl, rfl, (by decide : 1 + 0 ≤ _), (by decide : 1 + 0 ≤ _)⟩)
  dsimp only [Pt.U, Pt.locs, Pt.cells, Pt.slots] at X4_ l4_ y4_ z4_ st4_ hQ4_
  subst l4_ y4_ z4_
  obtain ⟨rfl, N4_q, p4__0, p4__1, p4__2⟩ := hQ4_
  have N4_ := Fr.app N2_ N4_q
  have fc5_ := p2__1.keep p4__0
  have K4_ := K2_.trans p4__0 (allS (Or.inr sz_b1_) all0)
  refine own_fin (fun tT kK => st4_.trans kK) ?_
  show own_Fin pP eE below _ (T4_.setTop (mkF mM 13 #[.val (.long q1), .second, .val (.ref b1_), .unset, .unset, .unset, .unset, .unset] [(.long (own_mix (q1 + (-7046029254386353131 : Int64))))]))
  refine own_fin (b := T4_.setTop (mkF mM 15 #[.val (.long q1), .second, .val (.ref b1_), .val (.long (own_mix (q1 + (-7046029254386353131 : Int64)))), .second, .unset, .unset, .unset] [(.ref b1_)])) (fun tT kK => ?_) ?_
  · show Steps pP.tables eE below (T4_.setTop (mkF mM 13 #[.val (.long q1), .second, .val (.ref b1_), .unset, .unset, .unset, .unset, .unset] [(.long (own_mix (q1 + (-7046029254386353131 : Int64))))])) tT
    refine XS.lstoreN X4_.here hx rfl (Jvm.hb hby at_13) rfl (l' := #[.val (.long q1), .second, .val (.ref b1_), .val (.long (own_mix (q1 + (-7046029254386353131 : Int64)))), .second, .unset, .unset, .unset]) rfl ?_
    show Steps pP.tables eE below (T4_.setTop (mkF mM 14 #[.val (.long q1), .second, .val (.ref b1_), .val (.long (own_mix (q1 + (-7046029254386353131 : Int64)))), .second, .unset, .unset, .unset] [])) tT
    refine XS.aloadN X4_.here hx rfl (Jvm.hb hby at_14) rfl rfl ?_
    show Steps pP.tables eE below (T4_.setTop (mkF mM 15 #[.val (.long q1), .second, .val (.ref b1_), .val (.long (own_mix (q1 + (-7046029254386353131 : Int64)))), .second, .unset, .unset, .unset] [(.ref b1_)])) tT
    exact kK
  obtain ⟨cq6_, kq6_, q6_a, q6_b, q6_c⟩ := isOf hZ rfl p4__1
  obtain ⟨_, _, ⟨T6_, L6_, k6_, n6_⟩, -, X6_, ⟨Lc6_, hQ6_, l6_, y6_, z6_⟩, st6_⟩ := X4_.virtualBack hx (y := (⟨"com/example/chains_to_rank/chainstorank/graph/SplitMix64", "nextLong", "()J"⟩ : MethodName)) (z := (⟨"com/example/chains_to_rank/chainstorank/graph/SplitMix64", "nextLong", "()J"⟩ : MethodName)) hown (mvT hZ (hw _ (List.mem_of_getElem? (i := 11) rfl))) (mvT hZ (hw _ (List.mem_of_getElem? (i := 12) rfl))) (notFace_of_selects (args := #[]) (mvT hZ (hw _ (List.mem_of_getElem? (i := 14) rfl)))) (mvT hZ (hw _ (List.mem_of_getElem? (i := 14) rfl))) (mvT hZ (hw _ (List.mem_of_getElem? (i := 13) rfl))) (by decide) (backOf (W := 0) (rm_next lL Z a0 hw [] b1_ (q1 + (-7046029254386353131 : Int64)) T4_.heap n0 (Nat.le_trans Z0 K4_.1) p4__1 p4__2 ge_b1_) hZ (hw _ (List.mem_of_getElem? (i := 15) rfl)) (hw _ (List.mem_of_getElem? (i := 2) rfl)) (by decide) (by decide)) q6_a q6_c (g := (mkF mM 15 #[.val (.long q1), .second, .val (.ref b1_), .val (.long (own_mix (q1 + (-7046029254386353131 : Int64)))), .second, .unset, .unset, .unset] [(.ref b1_)])) rfl (by rw [hml]; rfl) (Steps.refl _) (argsL := []) (rest := []) (lenOf own_pd2 rfl) rfl (by show 2 * 0 + _ ≤ _; exact Nat.le_of_eq rfl) (Jvm.hb hby at_15) (fun _ _ => ⟨rfl, rfl, (by decide : 1 + 0 ≤ _), (by decide : 1 + 0 ≤ _)⟩)
  dsimp only [Pt.U, Pt.locs, Pt.cells, Pt.slots] at X6_ l6_ y6_ z6_ st6_ hQ6_
  subst l6_ y6_ z6_
  obtain ⟨rfl, N6_q, p6__0, p6__1, p6__2⟩ := hQ6_
  have N6_ := Fr.app N4_ N6_q
  have fc7_ := p4__1.keep p6__0
  have K6_ := K4_.trans p6__0 (allS (Or.inr sz_b1_) all0)
  refine own_fin (fun tT kK => st6_.trans kK) ?_
  show own_Fin pP eE below _ (T6_.setTop (mkF mM 18 #[.val (.long q1), .second, .val (.ref b1_), .val (.long (own_mix (q1 + (-7046029254386353131 : Int64)))), .second, .unset, .unset, .unset] [(.long (own_mix ((q1 + (-7046029254386353131 : Int64)) + (-7046029254386353131 : Int64))))]))
  refine own_fin (b := T6_.setTop (mkF mM 26 #[.val (.long q1), .second, .val (.ref b1_), .val (.long (own_mix (q1 + (-7046029254386353131 : Int64)))), .second, .val (.long (own_mix ((q1 + (-7046029254386353131 : Int64)) + (-7046029254386353131 : Int64)))), .second, .unset] [(.long (-4658895280553007687 : Int64)), (.long (-4658895280553007687 : Int64))])) (fun tT kK => ?_) ?_
  · show Steps pP.tables eE below (T6_.setTop (mkF mM 18 #[.val (.long q1), .second, .val (.ref b1_), .val (.long (own_mix (q1 + (-7046029254386353131 : Int64)))), .second, .unset, .unset, .unset] [(.long (own_mix ((q1 + (-7046029254386353131 : Int64)) + (-7046029254386353131 : Int64))))])) tT
    refine XS.lstore X6_.here hx rfl (Jvm.hb hby at_18) rfl (l' := #[.val (.long q1), .second, .val (.ref b1_), .val (.long (own_mix (q1 + (-7046029254386353131 : Int64)))), .second, .val (.long (own_mix ((q1 + (-7046029254386353131 : Int64)) + (-7046029254386353131 : Int64)))), .second, .unset]) rfl ?_
    show Steps pP.tables eE below (T6_.setTop (mkF mM 20 #[.val (.long q1), .second, .val (.ref b1_), .val (.long (own_mix (q1 + (-7046029254386353131 : Int64)))), .second, .val (.long (own_mix ((q1 + (-7046029254386353131 : Int64)) + (-7046029254386353131 : Int64)))), .second, .unset] [])) tT
    refine X6_.ldc2Long hx hown (mvT hZ (hw _ (List.mem_of_getElem? (i := 19) rfl))) (g := (mkF mM 20 #[.val (.long q1), .second, .val (.ref b1_), .val (.long (own_mix (q1 + (-7046029254386353131 : Int64)))), .second, .val (.long (own_mix ((q1 + (-7046029254386353131 : Int64)) + (-7046029254386353131 : Int64)))), .second, .unset] [])) rfl (Jvm.hb hby at_20) _ ?_
    show Steps pP.tables eE below (T6_.setTop (mkF mM 23 #[.val (.long q1), .second, .val (.ref b1_), .val (.long (own_mix (q1 + (-7046029254386353131 : Int64)))), .second, .val (.long (own_mix ((q1 + (-7046029254386353131 : Int64)) + (-7046029254386353131 : Int64)))), .second, .unset] [(.long (-4658895280553007687 : Int64))])) tT
    refine X6_.ldc2Long hx hown (mvT hZ (hw _ (List.mem_of_getElem? (i := 19) rfl))) (g := (mkF mM 23 #[.val (.long q1), .second, .val (.ref b1_), .val (.long (own_mix (q1 + (-7046029254386353131 : Int64)))), .second, .val (.long (own_mix ((q1 + (-7046029254386353131 : Int64)) + (-7046029254386353131 : Int64)))), .second, .unset] [(.long (-4658895280553007687 : Int64))])) rfl (Jvm.hb hby at_23) _ ?_
    show Steps pP.tables eE below (T6_.setTop (mkF mM 26 #[.val (.long q1), .second, .val (.ref b1_), .val (.long (own_mix (q1 + (-7046029254386353131 : Int64)))), .second, .val (.long (own_mix ((q1 + (-7046029254386353131 : Int64)) + (-7046029254386353131 : Int64)))), .second, .unset] [(.long (-4658895280553007687 : Int64)), (.long (-4658895280553007687 : Int64))])) tT
    exact kK
  obtain ⟨_, _, ⟨T8_, L8_, k8_, n8_⟩, -, X8_, ⟨Lc8_, hQ8_, l8_, y8_, z8_⟩, st8_⟩ := Jvm.LawKit.callS X6_ hx (y := (⟨"com/example/chains_to_rank/chainstorank/graph/SplitMix64NextLongPinLaw", "inverseOfOdd", "(J)J"⟩ : MethodName)) hown (mvT hZ (hw _ (List.mem_of_getElem? (i := 20) rfl))) (mvT hZ (hw _ (List.mem_of_getElem? (i := 21) rfl))) (mvT hZ (hw _ (List.mem_of_getElem? (i := 22) rfl))) (mvT hZ (hw _ (List.mem_of_getElem? (i := 23) rfl))) (by decide) (backOf (W := 2) (rm_inv lL Z a0 hw [] (-4658895280553007687 : Int64) T6_.heap n0 (Nat.le_trans Z0 K6_.1) ) hZ (hw _ (List.mem_of_getElem? (i := 23) rfl)) (hw _ (List.mem_of_getElem? (i := 22) rfl)) (by decide) (by decide)) (g := (mkF mM 26 #[.val (.long q1), .second, .val (.ref b1_), .val (.long (own_mix (q1 + (-7046029254386353131 : Int64)))), .second, .val (.long (own_mix ((q1 + (-7046029254386353131 : Int64)) + (-7046029254386353131 : Int64)))), .second, .unset] [(.long (-4658895280553007687 : Int64)), (.long (-4658895280553007687 : Int64))])) rfl (by rw [hml]; rfl) (argsL := [(.long (-4658895280553007687 : Int64))]) (rest := [(.long (-4658895280553007687 : Int64))]) (lenOf own_pd0 rfl) rfl (by show 2 * 0 + _ ≤ _; exact Nat.le_of_eq rfl) (Jvm.hb hby at_26) (fun _ _ => ⟨rfl, rfl, (by decide : 1 + 0 ≤ _), (by decide : 1 + 0 ≤ _)⟩)
  dsimp only [Pt.U, Pt.locs, Pt.cells, Pt.slots] at X8_ l8_ y8_ z8_ st8_ hQ8_
  subst l8_ y8_ z8_
  obtain ⟨rfl, N8_q, p8__0⟩ := hQ8_
  have N8_ := Fr.app N6_ N8_q
  refine own_fin (fun tT kK => st8_ tT kK) ?_
  show own_Fin pP eE below _ (T8_.setTop (mkF mM 29 #[.val (.long q1), .second, .val (.ref b1_), .val (.long (own_mix (q1 + (-7046029254386353131 : Int64)))), .second, .val (.long (own_mix ((q1 + (-7046029254386353131 : Int64)) + (-7046029254386353131 : Int64)))), .second, .unset] [(.long (own_inv (-4658895280553007687 : Int64))), (.long (-4658895280553007687 : Int64))]))
  refine own_fin (b := T8_.setTop (mkF mM 41 #[.val (.long q1), .second, .val (.ref b1_), .val (.long (own_mix (q1 + (-7046029254386353131 : Int64)))), .second, .val (.long (own_mix ((q1 + (-7046029254386353131 : Int64)) + (-7046029254386353131 : Int64)))), .second, .unset] [(.long (-7723592293110705685 : Int64)), (.long (-7723592293110705685 : Int64))])) (fun tT kK => ?_) ?_
  · show Steps pP.tables eE below (T8_.setTop (mkF mM 29 #[.val (.long q1), .second, .val (.ref b1_), .val (.long (own_mix (q1 + (-7046029254386353131 : Int64)))), .second, .val (.long (own_mix ((q1 + (-7046029254386353131 : Int64)) + (-7046029254386353131 : Int64)))), .second, .unset] [(.long (own_inv (-4658895280553007687 : Int64))), (.long (-4658895280553007687 : Int64))])) tT
    refine XS.lmul X8_.here hx rfl (Jvm.hb hby at_29) rfl ?_
    show Steps pP.tables eE below (T8_.setTop (mkF mM 30 #[.val (.long q1), .second, .val (.ref b1_), .val (.long (own_mix (q1 + (-7046029254386353131 : Int64)))), .second, .val (.long (own_mix ((q1 + (-7046029254386353131 : Int64)) + (-7046029254386353131 : Int64)))), .second, .unset] [(.long ((-4658895280553007687 : Int64) * (own_inv (-4658895280553007687 : Int64))))])) tT
    refine XS.lconst X8_.here hx rfl (Jvm.hb hby at_30) ?_
    show Steps pP.tables eE below (T8_.setTop (mkF mM 31 #[.val (.long q1), .second, .val (.ref b1_), .val (.long (own_mix (q1 + (-7046029254386353131 : Int64)))), .second, .val (.long (own_mix ((q1 + (-7046029254386353131 : Int64)) + (-7046029254386353131 : Int64)))), .second, .unset] [(.long (1 : Int64)), (.long ((-4658895280553007687 : Int64) * (own_inv (-4658895280553007687 : Int64))))])) tT
    refine XS.lcmp X8_.here hx rfl (Jvm.hb hby at_31) rfl ?_
    show Steps pP.tables eE below (T8_.setTop (mkF mM 32 #[.val (.long q1), .second, .val (.ref b1_), .val (.long (own_mix (q1 + (-7046029254386353131 : Int64)))), .second, .val (.long (own_mix ((q1 + (-7046029254386353131 : Int64)) + (-7046029254386353131 : Int64)))), .second, .unset] [(.int (lcmpW ((-4658895280553007687 : Int64) * (own_inv (-4658895280553007687 : Int64))) (1 : Int64)))])) tT
    refine XS.ifNo X8_.here hx rfl (Jvm.hb hby at_32) rfl ((if0 _ _).trans (teq ((lw_eq ((-4658895280553007687 : Int64) * (own_inv (-4658895280553007687 : Int64))) (1 : Int64)).mpr (own_i1 : ((-4658895280553007687 : Int64) * (own_inv (-4658895280553007687 : Int64))) = (1 : Int64)))).2) ?_
    show Steps pP.tables eE below (T8_.setTop (mkF mM 35 #[.val (.long q1), .second, .val (.ref b1_), .val (.long (own_mix (q1 + (-7046029254386353131 : Int64)))), .second, .val (.long (own_mix ((q1 + (-7046029254386353131 : Int64)) + (-7046029254386353131 : Int64)))), .second, .unset] [])) tT
    refine X8_.ldc2Long hx hown (mvT hZ (hw _ (List.mem_of_getElem? (i := 25) rfl))) (g := (mkF mM 35 #[.val (.long q1), .second, .val (.ref b1_), .val (.long (own_mix (q1 + (-7046029254386353131 : Int64)))), .second, .val (.long (own_mix ((q1 + (-7046029254386353131 : Int64)) + (-7046029254386353131 : Int64)))), .second, .unset] [])) rfl (Jvm.hb hby at_35) _ ?_
    show Steps pP.tables eE below (T8_.setTop (mkF mM 38 #[.val (.long q1), .second, .val (.ref b1_), .val (.long (own_mix (q1 + (-7046029254386353131 : Int64)))), .second, .val (.long (own_mix ((q1 + (-7046029254386353131 : Int64)) + (-7046029254386353131 : Int64)))), .second, .unset] [(.long (-7723592293110705685 : Int64))])) tT
    refine X8_.ldc2Long hx hown (mvT hZ (hw _ (List.mem_of_getElem? (i := 25) rfl))) (g := (mkF mM 38 #[.val (.long q1), .second, .val (.ref b1_), .val (.long (own_mix (q1 + (-7046029254386353131 : Int64)))), .second, .val (.long (own_mix ((q1 + (-7046029254386353131 : Int64)) + (-7046029254386353131 : Int64)))), .second, .unset] [(.long (-7723592293110705685 : Int64))])) rfl (Jvm.hb hby at_38) _ ?_
    show Steps pP.tables eE below (T8_.setTop (mkF mM 41 #[.val (.long q1), .second, .val (.ref b1_), .val (.long (own_mix (q1 + (-7046029254386353131 : Int64)))), .second, .val (.long (own_mix ((q1 + (-7046029254386353131 : Int64)) + (-7046029254386353131 : Int64)))), .second, .unset] [(.long (-7723592293110705685 : Int64)), (.long (-7723592293110705685 : Int64))])) tT
    exact kK
  obtain ⟨_, _, ⟨T9_, L9_, k9_, n9_⟩, -, X9_, ⟨Lc9_, hQ9_, l9_, y9_, z9_⟩, st9_⟩ := Jvm.LawKit.callS X8_ hx (y := (⟨"com/example/chains_to_rank/chainstorank/graph/SplitMix64NextLongPinLaw", "inverseOfOdd", "(J)J"⟩ : MethodName)) hown (mvT hZ (hw _ (List.mem_of_getElem? (i := 20) rfl))) (mvT hZ (hw _ (List.mem_of_getElem? (i := 21) rfl))) (mvT hZ (hw _ (List.mem_of_getElem? (i := 22) rfl))) (mvT hZ (hw _ (List.mem_of_getElem? (i := 23) rfl))) (by decide) (backOf (W := 2) (rm_inv lL Z a0 hw [] (-7723592293110705685 : Int64) T6_.heap n0 (Nat.le_trans Z0 K6_.1) ) hZ (hw _ (List.mem_of_getElem? (i := 23) rfl)) (hw _ (List.mem_of_getElem? (i := 22) rfl)) (by decide) (by decide)) (g := (mkF mM 41 #[.val (.long q1), .second, .val (.ref b1_), .val (.long (own_mix (q1 + (-7046029254386353131 : Int64)))), .second, .val (.long (own_mix ((q1 + (-7046029254386353131 : Int64)) + (-7046029254386353131 : Int64)))), .second, .unset] [(.long (-7723592293110705685 : Int64)), (.long (-7723592293110705685 : Int64))])) rfl (by rw [hml]; rfl) (argsL := [(.long (-7723592293110705685 : Int64))]) (rest := [(.long (-7723592293110705685 : Int64))]) (lenOf own_pd0 rfl) rfl (by show 2 * 0 + _ ≤ _; exact Nat.le_of_eq rfl) (Jvm.hb hby at_41) (fun _ _ => ⟨rfl, p8__0, (by decide : 1 + 0 ≤ _), (by decide : 1 + 0 ≤ _)⟩)
  dsimp only [Pt.U, Pt.locs, Pt.cells, Pt.slots] at X9_ l9_ y9_ z9_ st9_ hQ9_
  subst l9_ y9_ z9_
  obtain ⟨rfl, N9_q, p9__0⟩ := hQ9_
  have N9_ := Fr.app N8_ N9_q
  refine own_fin (fun tT kK => st9_ tT kK) ?_
  show own_Fin pP eE below _ (T9_.setTop (mkF mM 44 #[.val (.long q1), .second, .val (.ref b1_), .val (.long (own_mix (q1 + (-7046029254386353131 : Int64)))), .second, .val (.long (own_mix ((q1 + (-7046029254386353131 : Int64)) + (-7046029254386353131 : Int64)))), .second, .unset] [(.long (own_inv (-7723592293110705685 : Int64))), (.long (-7723592293110705685 : Int64))]))
  refine own_fin (b := T9_.setTop (mkF mM 63 #[.val (.long q1), .second, .val (.ref b1_), .val (.long (own_mix (q1 + (-7046029254386353131 : Int64)))), .second, .val (.long (own_mix ((q1 + (-7046029254386353131 : Int64)) + (-7046029254386353131 : Int64)))), .second, .val (.int (1 : Int32))] [(.long (own_mix (q1 + (-7046029254386353131 : Int64))))])) (fun tT kK => ?_) ?_
  · show Steps pP.tables eE below (T9_.setTop (mkF mM 44 #[.val (.long q1), .second, .val (.ref b1_), .val (.long (own_mix (q1 + (-7046029254386353131 : Int64)))), .second, .val (.long (own_mix ((q1 + (-7046029254386353131 : Int64)) + (-7046029254386353131 : Int64)))), .second, .unset] [(.long (own_inv (-7723592293110705685 : Int64))), (.long (-7723592293110705685 : Int64))])) tT
    refine XS.lmul X9_.here hx rfl (Jvm.hb hby at_44) rfl ?_
    show Steps pP.tables eE below (T9_.setTop (mkF mM 45 #[.val (.long q1), .second, .val (.ref b1_), .val (.long (own_mix (q1 + (-7046029254386353131 : Int64)))), .second, .val (.long (own_mix ((q1 + (-7046029254386353131 : Int64)) + (-7046029254386353131 : Int64)))), .second, .unset] [(.long ((-7723592293110705685 : Int64) * (own_inv (-7723592293110705685 : Int64))))])) tT
    refine XS.lconst X9_.here hx rfl (Jvm.hb hby at_45) ?_
    show Steps pP.tables eE below (T9_.setTop (mkF mM 46 #[.val (.long q1), .second, .val (.ref b1_), .val (.long (own_mix (q1 + (-7046029254386353131 : Int64)))), .second, .val (.long (own_mix ((q1 + (-7046029254386353131 : Int64)) + (-7046029254386353131 : Int64)))), .second, .unset] [(.long (1 : Int64)), (.long ((-7723592293110705685 : Int64) * (own_inv (-7723592293110705685 : Int64))))])) tT
    refine XS.lcmp X9_.here hx rfl (Jvm.hb hby at_46) rfl ?_
    show Steps pP.tables eE below (T9_.setTop (mkF mM 47 #[.val (.long q1), .second, .val (.ref b1_), .val (.long (own_mix (q1 + (-7046029254386353131 : Int64)))), .second, .val (.long (own_mix ((q1 + (-7046029254386353131 : Int64)) + (-7046029254386353131 : Int64)))), .second, .unset] [(.int (lcmpW ((-7723592293110705685 : Int64) * (own_inv (-7723592293110705685 : Int64))) (1 : Int64)))])) tT
    refine XS.ifNo X9_.here hx rfl (Jvm.hb hby at_47) rfl ((if0 _ _).trans (teq ((lw_eq ((-7723592293110705685 : Int64) * (own_inv (-7723592293110705685 : Int64))) (1 : Int64)).mpr (own_i2 : ((-7723592293110705685 : Int64) * (own_inv (-7723592293110705685 : Int64))) = (1 : Int64)))).2) ?_
    show Steps pP.tables eE below (T9_.setTop (mkF mM 50 #[.val (.long q1), .second, .val (.ref b1_), .val (.long (own_mix (q1 + (-7046029254386353131 : Int64)))), .second, .val (.long (own_mix ((q1 + (-7046029254386353131 : Int64)) + (-7046029254386353131 : Int64)))), .second, .unset] [])) tT
    refine XS.iconst X9_.here hx rfl (Jvm.hb hby at_50) ?_
    show Steps pP.tables eE below (T9_.setTop (mkF mM 51 #[.val (.long q1), .second, .val (.ref b1_), .val (.long (own_mix (q1 + (-7046029254386353131 : Int64)))), .second, .val (.long (own_mix ((q1 + (-7046029254386353131 : Int64)) + (-7046029254386353131 : Int64)))), .second, .unset] [(.int (1 : Int32))])) tT
    refine XS.goto X9_.here hx rfl (pc0 := 51) (pc' := 55) rfl (Jvm.hb hby at_51) (by decide) (by decide) ?_
    show Steps pP.tables eE below (T9_.setTop (mkF mM 55 #[.val (.long q1), .second, .val (.ref b1_), .val (.long (own_mix (q1 + (-7046029254386353131 : Int64)))), .second, .val (.long (own_mix ((q1 + (-7046029254386353131 : Int64)) + (-7046029254386353131 : Int64)))), .second, .unset] [(.int (1 : Int32))])) tT
    refine XS.istore X9_.here hx rfl (Jvm.hb hby at_55) rfl (l' := #[.val (.long q1), .second, .val (.ref b1_), .val (.long (own_mix (q1 + (-7046029254386353131 : Int64)))), .second, .val (.long (own_mix ((q1 + (-7046029254386353131 : Int64)) + (-7046029254386353131 : Int64)))), .second, .val (.int (1 : Int32))]) rfl ?_
    show Steps pP.tables eE below (T9_.setTop (mkF mM 57 #[.val (.long q1), .second, .val (.ref b1_), .val (.long (own_mix (q1 + (-7046029254386353131 : Int64)))), .second, .val (.long (own_mix ((q1 + (-7046029254386353131 : Int64)) + (-7046029254386353131 : Int64)))), .second, .val (.int (1 : Int32))] [])) tT
    refine XS.iload X9_.here hx rfl (Jvm.hb hby at_57) rfl ?_
    show Steps pP.tables eE below (T9_.setTop (mkF mM 59 #[.val (.long q1), .second, .val (.ref b1_), .val (.long (own_mix (q1 + (-7046029254386353131 : Int64)))), .second, .val (.long (own_mix ((q1 + (-7046029254386353131 : Int64)) + (-7046029254386353131 : Int64)))), .second, .val (.int (1 : Int32))] [(.int (1 : Int32))])) tT
    refine XS.ifNo X9_.here hx rfl (Jvm.hb hby at_59) rfl ((if0 _ _).trans (feq ((by decide) : ¬ ((1 : Int32) = (0 : Int32)))).1) ?_
    show Steps pP.tables eE below (T9_.setTop (mkF mM 62 #[.val (.long q1), .second, .val (.ref b1_), .val (.long (own_mix (q1 + (-7046029254386353131 : Int64)))), .second, .val (.long (own_mix ((q1 + (-7046029254386353131 : Int64)) + (-7046029254386353131 : Int64)))), .second, .val (.int (1 : Int32))] [])) tT
    refine XS.lloadN X9_.here hx rfl (Jvm.hb hby at_62) rfl ?_
    show Steps pP.tables eE below (T9_.setTop (mkF mM 63 #[.val (.long q1), .second, .val (.ref b1_), .val (.long (own_mix (q1 + (-7046029254386353131 : Int64)))), .second, .val (.long (own_mix ((q1 + (-7046029254386353131 : Int64)) + (-7046029254386353131 : Int64)))), .second, .val (.int (1 : Int32))] [(.long (own_mix (q1 + (-7046029254386353131 : Int64))))])) tT
    exact kK
  obtain ⟨_, _, ⟨T10_, L10_, k10_, n10_⟩, -, X10_, ⟨Lc10_, hQ10_, l10_, y10_, z10_⟩, st10_⟩ := Jvm.LawKit.callS X9_ hx (y := (⟨"com/example/chains_to_rank/chainstorank/graph/SplitMix64NextLongPinLaw", "unmix", "(J)J"⟩ : MethodName)) hown (mvT hZ (hw _ (List.mem_of_getElem? (i := 26) rfl))) (mvT hZ (hw _ (List.mem_of_getElem? (i := 27) rfl))) (mvT hZ (hw _ (List.mem_of_getElem? (i := 22) rfl))) (mvT hZ (hw _ (List.mem_of_getElem? (i := 28) rfl))) (by decide) (backOf (W := 0) (rm_unmix lL Z a0 hw [] (own_mix (q1 + (-7046029254386353131 : Int64))) T6_.heap n0 (Nat.le_trans Z0 K6_.1) ) hZ (hw _ (List.mem_of_getElem? (i := 28) rfl)) (hw _ (List.mem_of_getElem? (i := 22) rfl)) (by decide) (by decide)) (g := (mkF mM 63 #[.val (.long q1), .second, .val (.ref b1_), .val (.long (own_mix (q1 + (-7046029254386353131 : Int64)))), .second, .val (.long (own_mix ((q1 + (-7046029254386353131 : Int64)) + (-7046029254386353131 : Int64)))), .second, .val (.int (1 : Int32))] [(.long (own_mix (q1 + (-7046029254386353131 : Int64))))])) rfl (by rw [hml]; rfl) (argsL := [(.long (own_mix (q1 + (-7046029254386353131 : Int64))))]) (rest := []) (lenOf own_pd0 rfl) rfl (by show 2 * 0 + _ ≤ _; exact Nat.le_of_eq rfl) (Jvm.hb hby at_63) (fun _ _ => ⟨rfl, p9__0, (by decide : 1 + 0 ≤ _), (by decide : 1 + 0 ≤ _)⟩)
  dsimp only [Pt.U, Pt.locs, Pt.cells, Pt.slots] at X10_ l10_ y10_ z10_ st10_ hQ10_
  subst l10_ y10_ z10_
  obtain ⟨rfl, N10_q, p10__0⟩ := hQ10_
  have N10_ := Fr.app N9_ N10_q
  refine own_fin (fun tT kK => st10_ tT kK) ?_
  show own_Fin pP eE below _ (T10_.setTop (mkF mM 66 #[.val (.long q1), .second, .val (.ref b1_), .val (.long (own_mix (q1 + (-7046029254386353131 : Int64)))), .second, .val (.long (own_mix ((q1 + (-7046029254386353131 : Int64)) + (-7046029254386353131 : Int64)))), .second, .val (.int (1 : Int32))] [(.long (own_unmix (own_mix (q1 + (-7046029254386353131 : Int64)))))]))
  refine own_fin (b := T10_.setTop (mkF mM 77 #[.val (.long q1), .second, .val (.ref b1_), .val (.long (own_mix (q1 + (-7046029254386353131 : Int64)))), .second, .val (.long (own_mix ((q1 + (-7046029254386353131 : Int64)) + (-7046029254386353131 : Int64)))), .second, .val (.int (1 : Int32))] [(.long (own_mix ((q1 + (-7046029254386353131 : Int64)) + (-7046029254386353131 : Int64))))])) (fun tT kK => ?_) ?_
  · show Steps pP.tables eE below (T10_.setTop (mkF mM 66 #[.val (.long q1), .second, .val (.ref b1_), .val (.long (own_mix (q1 + (-7046029254386353131 : Int64)))), .second, .val (.long (own_mix ((q1 + (-7046029254386353131 : Int64)) + (-7046029254386353131 : Int64)))), .second, .val (.int (1 : Int32))] [(.long (own_unmix (own_mix (q1 + (-7046029254386353131 : Int64)))))])) tT
    refine XS.lloadN X10_.here hx rfl (Jvm.hb hby at_66) rfl ?_
    show Steps pP.tables eE below (T10_.setTop (mkF mM 67 #[.val (.long q1), .second, .val (.ref b1_), .val (.long (own_mix (q1 + (-7046029254386353131 : Int64)))), .second, .val (.long (own_mix ((q1 + (-7046029254386353131 : Int64)) + (-7046029254386353131 : Int64)))), .second, .val (.int (1 : Int32))] [(.long q1), (.long (own_unmix (own_mix (q1 + (-7046029254386353131 : Int64)))))])) tT
    refine X10_.ldc2Long hx hown (mvT hZ (hw _ (List.mem_of_getElem? (i := 29) rfl))) (g := (mkF mM 67 #[.val (.long q1), .second, .val (.ref b1_), .val (.long (own_mix (q1 + (-7046029254386353131 : Int64)))), .second, .val (.long (own_mix ((q1 + (-7046029254386353131 : Int64)) + (-7046029254386353131 : Int64)))), .second, .val (.int (1 : Int32))] [(.long q1), (.long (own_unmix (own_mix (q1 + (-7046029254386353131 : Int64)))))])) rfl (Jvm.hb hby at_67) _ ?_
    show Steps pP.tables eE below (T10_.setTop (mkF mM 70 #[.val (.long q1), .second, .val (.ref b1_), .val (.long (own_mix (q1 + (-7046029254386353131 : Int64)))), .second, .val (.long (own_mix ((q1 + (-7046029254386353131 : Int64)) + (-7046029254386353131 : Int64)))), .second, .val (.int (1 : Int32))] [(.long (-7046029254386353131 : Int64)), (.long q1), (.long (own_unmix (own_mix (q1 + (-7046029254386353131 : Int64)))))])) tT
    refine XS.ladd X10_.here hx rfl (Jvm.hb hby at_70) rfl ?_
    show Steps pP.tables eE below (T10_.setTop (mkF mM 71 #[.val (.long q1), .second, .val (.ref b1_), .val (.long (own_mix (q1 + (-7046029254386353131 : Int64)))), .second, .val (.long (own_mix ((q1 + (-7046029254386353131 : Int64)) + (-7046029254386353131 : Int64)))), .second, .val (.int (1 : Int32))] [(.long (q1 + (-7046029254386353131 : Int64))), (.long (own_unmix (own_mix (q1 + (-7046029254386353131 : Int64)))))])) tT
    refine XS.lcmp X10_.here hx rfl (Jvm.hb hby at_71) rfl ?_
    show Steps pP.tables eE below (T10_.setTop (mkF mM 72 #[.val (.long q1), .second, .val (.ref b1_), .val (.long (own_mix (q1 + (-7046029254386353131 : Int64)))), .second, .val (.long (own_mix ((q1 + (-7046029254386353131 : Int64)) + (-7046029254386353131 : Int64)))), .second, .val (.int (1 : Int32))] [(.int (lcmpW (own_unmix (own_mix (q1 + (-7046029254386353131 : Int64)))) (q1 + (-7046029254386353131 : Int64))))])) tT
    refine XS.ifNo X10_.here hx rfl (Jvm.hb hby at_72) rfl ((if0 _ _).trans (teq ((lw_eq (own_unmix (own_mix (q1 + (-7046029254386353131 : Int64)))) (q1 + (-7046029254386353131 : Int64))).mpr (own_un _ : (own_unmix (own_mix (q1 + (-7046029254386353131 : Int64)))) = (q1 + (-7046029254386353131 : Int64))))).2) ?_
    show Steps pP.tables eE below (T10_.setTop (mkF mM 75 #[.val (.long q1), .second, .val (.ref b1_), .val (.long (own_mix (q1 + (-7046029254386353131 : Int64)))), .second, .val (.long (own_mix ((q1 + (-7046029254386353131 : Int64)) + (-7046029254386353131 : Int64)))), .second, .val (.int (1 : Int32))] [])) tT
    refine XS.lload X10_.here hx rfl (Jvm.hb hby at_75) rfl ?_
    show Steps pP.tables eE below (T10_.setTop (mkF mM 77 #[.val (.long q1), .second, .val (.ref b1_), .val (.long (own_mix (q1 + (-7046029254386353131 : Int64)))), .second, .val (.long (own_mix ((q1 + (-7046029254386353131 : Int64)) + (-7046029254386353131 : Int64)))), .second, .val (.int (1 : Int32))] [(.long (own_mix ((q1 + (-7046029254386353131 : Int64)) + (-7046029254386353131 : Int64))))])) tT
    exact kK
  obtain ⟨_, _, ⟨T11_, L11_, k11_, n11_⟩, -, X11_, ⟨Lc11_, hQ11_, l11_, y11_, z11_⟩, st11_⟩ := Jvm.LawKit.callS X10_ hx (y := (⟨"com/example/chains_to_rank/chainstorank/graph/SplitMix64NextLongPinLaw", "unmix", "(J)J"⟩ : MethodName)) hown (mvT hZ (hw _ (List.mem_of_getElem? (i := 26) rfl))) (mvT hZ (hw _ (List.mem_of_getElem? (i := 27) rfl))) (mvT hZ (hw _ (List.mem_of_getElem? (i := 22) rfl))) (mvT hZ (hw _ (List.mem_of_getElem? (i := 28) rfl))) (by decide) (backOf (W := 0) (rm_unmix lL Z a0 hw [] (own_mix ((q1 + (-7046029254386353131 : Int64)) + (-7046029254386353131 : Int64))) T6_.heap n0 (Nat.le_trans Z0 K6_.1) ) hZ (hw _ (List.mem_of_getElem? (i := 28) rfl)) (hw _ (List.mem_of_getElem? (i := 22) rfl)) (by decide) (by decide)) (g := (mkF mM 77 #[.val (.long q1), .second, .val (.ref b1_), .val (.long (own_mix (q1 + (-7046029254386353131 : Int64)))), .second, .val (.long (own_mix ((q1 + (-7046029254386353131 : Int64)) + (-7046029254386353131 : Int64)))), .second, .val (.int (1 : Int32))] [(.long (own_mix ((q1 + (-7046029254386353131 : Int64)) + (-7046029254386353131 : Int64))))])) rfl (by rw [hml]; rfl) (argsL := [(.long (own_mix ((q1 + (-7046029254386353131 : Int64)) + (-7046029254386353131 : Int64))))]) (rest := []) (lenOf own_pd0 rfl) rfl (by show 2 * 0 + _ ≤ _; exact Nat.le_of_eq rfl) (Jvm.hb hby at_77) (fun _ _ => ⟨rfl, p10__0, (by decide : 1 + 0 ≤ _), (by decide : 1 + 0 ≤ _)⟩)
  dsimp only [Pt.U, Pt.locs, Pt.cells, Pt.slots] at X11_ l11_ y11_ z11_ st11_ hQ11_
  subst l11_ y11_ z11_
  obtain ⟨rfl, N11_q, p11__0⟩ := hQ11_
  have N11_ := Fr.app N10_ N11_q
  refine own_fin (fun tT kK => st11_ tT kK) ?_
  show own_Fin pP eE below _ (T11_.setTop (mkF mM 80 #[.val (.long q1), .second, .val (.ref b1_), .val (.long (own_mix (q1 + (-7046029254386353131 : Int64)))), .second, .val (.long (own_mix ((q1 + (-7046029254386353131 : Int64)) + (-7046029254386353131 : Int64)))), .second, .val (.int (1 : Int32))] [(.long (own_unmix (own_mix ((q1 + (-7046029254386353131 : Int64)) + (-7046029254386353131 : Int64)))))]))
  refine own_fin (b := T11_.setTop (mkF mM 98 #[.val (.long q1), .second, .val (.ref b1_), .val (.long (own_mix (q1 + (-7046029254386353131 : Int64)))), .second, .val (.long (own_mix ((q1 + (-7046029254386353131 : Int64)) + (-7046029254386353131 : Int64)))), .second, .val (.int (1 : Int32))] [(.int (1 : Int32))])) (fun tT kK => ?_) ?_
  · show Steps pP.tables eE below (T11_.setTop (mkF mM 80 #[.val (.long q1), .second, .val (.ref b1_), .val (.long (own_mix (q1 + (-7046029254386353131 : Int64)))), .second, .val (.long (own_mix ((q1 + (-7046029254386353131 : Int64)) + (-7046029254386353131 : Int64)))), .second, .val (.int (1 : Int32))] [(.long (own_unmix (own_mix ((q1 + (-7046029254386353131 : Int64)) + (-7046029254386353131 : Int64)))))])) tT
    refine XS.lloadN X11_.here hx rfl (Jvm.hb hby at_80) rfl ?_
    show Steps pP.tables eE below (T11_.setTop (mkF mM 81 #[.val (.long q1), .second, .val (.ref b1_), .val (.long (own_mix (q1 + (-7046029254386353131 : Int64)))), .second, .val (.long (own_mix ((q1 + (-7046029254386353131 : Int64)) + (-7046029254386353131 : Int64)))), .second, .val (.int (1 : Int32))] [(.long q1), (.long (own_unmix (own_mix ((q1 + (-7046029254386353131 : Int64)) + (-7046029254386353131 : Int64)))))])) tT
    refine X11_.ldc2Long hx hown (mvT hZ (hw _ (List.mem_of_getElem? (i := 29) rfl))) (g := (mkF mM 81 #[.val (.long q1), .second, .val (.ref b1_), .val (.long (own_mix (q1 + (-7046029254386353131 : Int64)))), .second, .val (.long (own_mix ((q1 + (-7046029254386353131 : Int64)) + (-7046029254386353131 : Int64)))), .second, .val (.int (1 : Int32))] [(.long q1), (.long (own_unmix (own_mix ((q1 + (-7046029254386353131 : Int64)) + (-7046029254386353131 : Int64)))))])) rfl (Jvm.hb hby at_81) _ ?_
    show Steps pP.tables eE below (T11_.setTop (mkF mM 84 #[.val (.long q1), .second, .val (.ref b1_), .val (.long (own_mix (q1 + (-7046029254386353131 : Int64)))), .second, .val (.long (own_mix ((q1 + (-7046029254386353131 : Int64)) + (-7046029254386353131 : Int64)))), .second, .val (.int (1 : Int32))] [(.long (-7046029254386353131 : Int64)), (.long q1), (.long (own_unmix (own_mix ((q1 + (-7046029254386353131 : Int64)) + (-7046029254386353131 : Int64)))))])) tT
    refine XS.ladd X11_.here hx rfl (Jvm.hb hby at_84) rfl ?_
    show Steps pP.tables eE below (T11_.setTop (mkF mM 85 #[.val (.long q1), .second, .val (.ref b1_), .val (.long (own_mix (q1 + (-7046029254386353131 : Int64)))), .second, .val (.long (own_mix ((q1 + (-7046029254386353131 : Int64)) + (-7046029254386353131 : Int64)))), .second, .val (.int (1 : Int32))] [(.long (q1 + (-7046029254386353131 : Int64))), (.long (own_unmix (own_mix ((q1 + (-7046029254386353131 : Int64)) + (-7046029254386353131 : Int64)))))])) tT
    refine X11_.ldc2Long hx hown (mvT hZ (hw _ (List.mem_of_getElem? (i := 29) rfl))) (g := (mkF mM 85 #[.val (.long q1), .second, .val (.ref b1_), .val (.long (own_mix (q1 + (-7046029254386353131 : Int64)))), .second, .val (.long (own_mix ((q1 + (-7046029254386353131 : Int64)) + (-7046029254386353131 : Int64)))), .second, .val (.int (1 : Int32))] [(.long (q1 + (-7046029254386353131 : Int64))), (.long (own_unmix (own_mix ((q1 + (-7046029254386353131 : Int64)) + (-7046029254386353131 : Int64)))))])) rfl (Jvm.hb hby at_85) _ ?_
    show Steps pP.tables eE below (T11_.setTop (mkF mM 88 #[.val (.long q1), .second, .val (.ref b1_), .val (.long (own_mix (q1 + (-7046029254386353131 : Int64)))), .second, .val (.long (own_mix ((q1 + (-7046029254386353131 : Int64)) + (-7046029254386353131 : Int64)))), .second, .val (.int (1 : Int32))] [(.long (-7046029254386353131 : Int64)), (.long (q1 + (-7046029254386353131 : Int64))), (.long (own_unmix (own_mix ((q1 + (-7046029254386353131 : Int64)) + (-7046029254386353131 : Int64)))))])) tT
    refine XS.ladd X11_.here hx rfl (Jvm.hb hby at_88) rfl ?_
    show Steps pP.tables eE below (T11_.setTop (mkF mM 89 #[.val (.long q1), .second, .val (.ref b1_), .val (.long (own_mix (q1 + (-7046029254386353131 : Int64)))), .second, .val (.long (own_mix ((q1 + (-7046029254386353131 : Int64)) + (-7046029254386353131 : Int64)))), .second, .val (.int (1 : Int32))] [(.long ((q1 + (-7046029254386353131 : Int64)) + (-7046029254386353131 : Int64))), (.long (own_unmix (own_mix ((q1 + (-7046029254386353131 : Int64)) + (-7046029254386353131 : Int64)))))])) tT
    refine XS.lcmp X11_.here hx rfl (Jvm.hb hby at_89) rfl ?_
    show Steps pP.tables eE below (T11_.setTop (mkF mM 90 #[.val (.long q1), .second, .val (.ref b1_), .val (.long (own_mix (q1 + (-7046029254386353131 : Int64)))), .second, .val (.long (own_mix ((q1 + (-7046029254386353131 : Int64)) + (-7046029254386353131 : Int64)))), .second, .val (.int (1 : Int32))] [(.int (lcmpW (own_unmix (own_mix ((q1 + (-7046029254386353131 : Int64)) + (-7046029254386353131 : Int64)))) ((q1 + (-7046029254386353131 : Int64)) + (-7046029254386353131 : Int64))))])) tT
    refine XS.ifNo X11_.here hx rfl (Jvm.hb hby at_90) rfl ((if0 _ _).trans (teq ((lw_eq (own_unmix (own_mix ((q1 + (-7046029254386353131 : Int64)) + (-7046029254386353131 : Int64)))) ((q1 + (-7046029254386353131 : Int64)) + (-7046029254386353131 : Int64))).mpr (own_un _ : (own_unmix (own_mix ((q1 + (-7046029254386353131 : Int64)) + (-7046029254386353131 : Int64)))) = ((q1 + (-7046029254386353131 : Int64)) + (-7046029254386353131 : Int64))))).2) ?_
    show Steps pP.tables eE below (T11_.setTop (mkF mM 93 #[.val (.long q1), .second, .val (.ref b1_), .val (.long (own_mix (q1 + (-7046029254386353131 : Int64)))), .second, .val (.long (own_mix ((q1 + (-7046029254386353131 : Int64)) + (-7046029254386353131 : Int64)))), .second, .val (.int (1 : Int32))] [])) tT
    refine XS.iconst X11_.here hx rfl (Jvm.hb hby at_93) ?_
    show Steps pP.tables eE below (T11_.setTop (mkF mM 94 #[.val (.long q1), .second, .val (.ref b1_), .val (.long (own_mix (q1 + (-7046029254386353131 : Int64)))), .second, .val (.long (own_mix ((q1 + (-7046029254386353131 : Int64)) + (-7046029254386353131 : Int64)))), .second, .val (.int (1 : Int32))] [(.int (1 : Int32))])) tT
    refine XS.goto X11_.here hx rfl (pc0 := 94) (pc' := 98) rfl (Jvm.hb hby at_94) (by decide) (by decide) ?_
    show Steps pP.tables eE below (T11_.setTop (mkF mM 98 #[.val (.long q1), .second, .val (.ref b1_), .val (.long (own_mix (q1 + (-7046029254386353131 : Int64)))), .second, .val (.long (own_mix ((q1 + (-7046029254386353131 : Int64)) + (-7046029254386353131 : Int64)))), .second, .val (.int (1 : Int32))] [(.int (1 : Int32))])) tT
    exact kK
  obtain ⟨fs, hr, hrun, hended, hW, hsame⟩ := X11_.leave (v := some (.int (1 : Int32))) (fun h => by rw [Bd.returns] at h; cases h)
  refine ⟨_, _, ?_, hrun, hended, _, _, rfl, ?_, ⟨_, rfl⟩, hW, hsame.mono (by decide) (by decide)⟩
  · show Steps pP.tables eE below (T11_.setTop (mkF mM 98 #[.val (.long q1), .second, .val (.ref b1_), .val (.long (own_mix (q1 + (-7046029254386353131 : Int64)))), .second, .val (.long (own_mix ((q1 + (-7046029254386353131 : Int64)) + (-7046029254386353131 : Int64)))), .second, .val (.int (1 : Int32))] [(.int (1 : Int32))])) _
    exact retN X11_ hx (t := .boolean) Bd.returns (by simp) (Jvm.hb hby at_98) hr
  · show Q_rm0 Z q1 h0 n0 _ T11_.heap _
    rw [p11__0]
    exact ⟨rfl, N11_⟩
set_option maxRecDepth 65536 in
set_option maxHeartbeats 40000000 in
theorem comes_1 {Post : Tables → Env → Array Value → State → Outcome → State → Prop} (hpost : ∀ tb e args s v u, (limb_1_1.after args s (.returned v) u = true ∧ limb_1_2.after args s (.returned v) u = true ∧ True) → FrameEnd s (.returned v) u (Jvm.fieldLocs frame_1_writes args s ++ Jvm.arrayLocs frame_1_arrays args s ++ Jvm.staticLocs frame_1_statics s) 16 128 → Post tb e args s (.returned v) u) :
    ArmFor flags0 classFile x code maxLocals ret World_1 tables_1 room_1 Calls_1 rest_1 Pre_1 Post := by
  intro l hfl _ _ p e ha hc hk s m args below hf hA hF happ hP
  obtain ⟨hcalls, hrest, hpre⟩ := hP
  obtain ⟨-, -, -, hnamed, -, -, -, hat⟩ := (Spec.applies_iff hf).mp happ
  obtain ⟨hg, hn⟩ := and_e (Cond.before_iff.mp (show (Jvm.Cond.and given_1 narrow_1).before args s = true from hpre))
  obtain ⟨gg1, gg2⟩ := and_e hg
  obtain ⟨w0, rfl⟩ : ∃ w0 : Value, args = #[w0] := by
    have hs : args.size = 1 := by simpa [Cond.value, given_1] using gg1
    obtain ⟨L⟩ := args
    match L, hs with
    | [w0], _ => exact ⟨w0, rfl⟩
  have hw := fun d (hd : d ∈ tables_1) => atoms_spec (ws := Jvm.Cond.code x code maxLocals ret :: tables_1) hat d (List.mem_cons_of_mem _ hd)
  have hfit : Fit s := fun {y c} hc i hi => by
    obtain ⟨ha, rfl⟩ := Array.getElem?_eq_some_iff.mp hc
    have q := List.all_eq_true.mp ((Array.all_eq_true_iff_forall_mem.mp hF) _ (Array.getElem_mem ha)) i (List.mem_range.mpr hi)
    simpa [Array.getElem?_eq_getElem hi] using q
  obtain ⟨i0, ei0⟩ := isL_v gg2
  obtain rfl : w0 = (.long i0) := Option.some.inj ei0
  obtain ⟨n, o, h1, h2, h3, _, L, rfl, ⟨rfl, N⟩, hq⟩ := rm0 l s _ hw tables_1 i0 s.heap s.heap.size (Nat.le_refl _)  p e ha hc hk s m _ below hf ((Spec.applies_iff_loose hf).mp happ).1 ⟨rfl, State.Warmed39.refl s, rfl⟩ trivial
  refine ⟨n, _, h1, h2, h3, hpost _ _ _ _ _ _ ⟨Cond.after_iff.mpr rfl, Cond.after_iff.mpr (eq_i res_at (Term.int_eval (1)) rfl), trivial⟩ ⟨hq.1, hq.2.1, (hq.2.2.sift fun y hy => Or.inr (N y hy)).mono (by decide) (by decide)⟩⟩
theorem main_1_1 : Claimed_1_1 := comes_1 fun _ _ _ _ _ _ h hF => ⟨h.1, hF⟩
theorem main_1_2 : Claimed_1_2 := comes_1 fun _ _ _ _ _ _ h hF => ⟨h.2.1, hF⟩
end Jvm.Pilot.@@N@@
namespace Jvm.Pilot.@@N@@
open Jvm Jvm.ClassFile Sem Op Lib Jvm.Free Jvm.Stand Jvm.Pilot.@@N@@.Jvm.D
/-! MADE BY PROGRAM (witnessworld.py) out of the Statement's table words and the real class files: 10 classes; the members and pool entries that the words name. The judged class is class 1, her method 3. -/
namespace start1
open Jvm.ClassFile
def u (s : String) : CpInfo := .utf8 (stringToUtf16 s)
/-- a pool by its gaps: so many unusable entries, then the entry; so many at the end -/
def gap : Nat → List CpInfo → List CpInfo
  | 0, r => r
  | n + 1, r => .unusable :: gap n r
def poolList (es : List (Nat × CpInfo)) (last : Nat) : List CpInfo := es.foldr (fun e r => gap e.1 (e.2 :: r)) (gap last [])
def pool (es : List (Nat × CpInfo)) (last : Nat) : Array CpInfo := ⟨poolList es last⟩
def fileOf (pool : Array CpInfo) (this : Nat) (attrs : Array Attribute := #[]) (ms : Array MethodInfo := #[]) (fl : Nat := 33) (sup : Nat := 0) (ifs : Array Nat := #[]) (fds : Array FieldInfo := #[]) : ClassFile where
  minorVersion := 0
  majorVersion := 65
  constantPool := pool
  accessFlags := fl
  thisClass := this
  superClass := sup
  interfaces := ifs
  fields := fds
  methods := ms
  attributes := attrs
def plain (name : String) (sup : Option ClassId) : Class where
  name := name
  kind := .ordinary
  loader := none
  accessFlags := 33
  super := sup
  interfaces := #[]
  cf := none
  fields := #[]
  methods := #[]
  instanceTypes := #[]
  staticTypes := #[]
  resolved := #[]
  callSites := []
  init := .initialized
  statics := none
  mirror := none

def pool0 : Array CpInfo := pool [(5, u "<init>"), (0, u "()V"), (1, .class_ 10), (1, u "java/lang/Object")] 113

def k0c0 : Code := { maxStack := 0, maxLocals := 1, code := object_method_1_code, exceptionTable := #[], attributes := #[] }
def k0m0 : Method := { name := "<init>", desc := "()V", sig := { parameters := [], returnType := none }, accessFlags := 1, code := some k0c0 }
/-- java/lang/Object -/
def k0 : Class := { plain "java/lang/Object" none with
  accessFlags := 33
  interfaces := #[]
  cf := some (fileOf pool0 8 #[] #[{ accessFlags := 1, nameIndex := 5, descriptorIndex := 6, attributes := #[] }] 33 0 #[] #[])
  fields := #[]
  methods := #[k0m0]
  instanceTypes := #[]
  staticTypes := #[]
  resolved := Array.replicate 124 none
  statics := none }

def pool1 : Array CpInfo := pool [(2, .class_ 4), (1, u "java/lang/Object"), (0, u "<init>"), (0, u "()V"), (0, .long 2), (1, .class_ 10), (0, u "com/example/chains_to_rank/chainstorank/graph/SplitMix64NextLongPinLaw"), (0, .long 10723151780598845931), (1, .methodref 9 14), (0, .nameAndType 15 16), (0, u "inverseOfOdd"), (0, u "(J)J"), (0, .long 13787848793156543929), (1, .class_ 20), (0, u "com/example/chains_to_rank/chainstorank/graph/SplitMix64"), (0, .methodref 19 22), (0, .nameAndType 5 23), (0, u "(J)V"), (0, .methodref 19 25), (0, .nameAndType 26 27), (0, u "nextLong"), (0, u "()J"), (0, .methodref 9 29), (0, .nameAndType 30 16), (0, u "unmix"), (0, .long 11400714819323198485), (1, u "GAMMA"), (0, u "J"), (1, u "C1"), (0, u "C2"), (2, u "law"), (0, u "(J)Z")] 3

def k1m0 : Method := { name := "<init>", desc := "()V", sig := { parameters := [], returnType := none }, accessFlags := 1, code := none }
def k1c1 : Code := { maxStack := 8, maxLocals := 4, code := method_2_code, exceptionTable := #[], attributes := #[] }
def k1m1 : Method := { name := "inverseOfOdd", desc := "(J)J", sig := { parameters := [.long], returnType := some .long }, accessFlags := 10, code := some k1c1 }
def k1c2 : Code := { maxStack := 5, maxLocals := 10, code := method_3_code, exceptionTable := #[], attributes := #[] }
def k1m2 : Method := { name := "unmix", desc := "(J)J", sig := { parameters := [.long], returnType := some .long }, accessFlags := 10, code := some k1c2 }
def k1c3 : Code := { maxStack := 6, maxLocals := 8, code := code, exceptionTable := #[], attributes := #[] }
def k1m3 : Method := { name := "law", desc := "(J)Z", sig := { parameters := [.long], returnType := some .boolean }, accessFlags := 9, code := some k1c3 }
/-- com/example/chains_to_rank/chainstorank/graph/SplitMix64NextLongPinLaw -/
def k1 : Class := { plain "com/example/chains_to_rank/chainstorank/graph/SplitMix64NextLongPinLaw" (some 0) with
  accessFlags := 49
  interfaces := #[]
  cf := some (fileOf pool1 9 #[] #[{ accessFlags := 1, nameIndex := 5, descriptorIndex := 6, attributes := #[] }, { accessFlags := 10, nameIndex := 15, descriptorIndex := 16, attributes := #[] }, { accessFlags := 10, nameIndex := 30, descriptorIndex := 16, attributes := #[] }, { accessFlags := 9, nameIndex := 40, descriptorIndex := 41, attributes := #[] }] 49 2 #[] #[{ accessFlags := 26, nameIndex := 33, descriptorIndex := 34, attributes := #[] }, { accessFlags := 26, nameIndex := 36, descriptorIndex := 34, attributes := #[] }, { accessFlags := 26, nameIndex := 37, descriptorIndex := 34, attributes := #[] }])
  fields := #[{ name := "GAMMA", type := .long, accessFlags := 26, slot := 0, constantValue := 0 }, { name := "C1", type := .long, accessFlags := 26, slot := 1, constantValue := 0 }, { name := "C2", type := .long, accessFlags := 26, slot := 2, constantValue := 0 }]
  methods := #[k1m0, k1m1, k1m2, k1m3]
  instanceTypes := #[]
  staticTypes := #[.long, .long, .long]
  resolved := Array.replicate 45 none
  statics := none }

def pool2 : Array CpInfo := pool [(7, .class_ 8), (0, u "java/util/random/RandomGenerator"), (199, .class_ 209), (0, u "java/lang/Object"), (52, .class_ 263), (0, u "java/util/random/RandomGenerator$ArbitrarilyJumpableGenerator"), (0, .class_ 265), (0, u "java/util/random/RandomGenerator$LeapableGenerator"), (0, .class_ 267), (0, u "java/util/random/RandomGenerator$JumpableGenerator"), (0, .class_ 269), (0, u "java/util/random/RandomGenerator$SplittableGenerator"), (0, .class_ 271), (0, u "java/util/random/RandomGenerator$StreamableGenerator")] 36

/-- java/util/random/RandomGenerator -/
def k2 : Class := { plain "java/util/random/RandomGenerator" (some 0) with
  accessFlags := 1537
  interfaces := #[]
  cf := some (fileOf pool2 7 #[.nestMembers #[262, 264, 266, 268, 270]] #[] 1537 208 #[] #[])
  fields := #[]
  methods := #[]
  instanceTypes := #[]
  staticTypes := #[]
  resolved := Array.replicate 308 none
  statics := none }

def pool3 : Array CpInfo := pool [(1, .methodref 2 3), (0, .class_ 4), (0, .nameAndType 5 6), (0, u "java/lang/Object"), (0, u "<init>"), (0, u "()V"), (0, .fieldref 8 9), (0, .class_ 10), (0, .nameAndType 11 12), (0, u "com/example/chains_to_rank/chainstorank/graph/SplitMix64"), (0, u "state"), (0, u "J"), (9, .long 11400714819323198485), (3, u "(J)V"), (2, u "nextLong"), (0, u "()J"), (0, .long 13787848793156543929), (1, .long 10723151780598845931), (12, .class_ 47), (0, u "java/util/random/RandomGenerator"), (0, u "GAMMA"), (1, u "UNSIGNED_INT")] 25

def k3c0 : Code := { maxStack := 3, maxLocals := 3, code := prog_48_method_1_code, exceptionTable := #[], attributes := #[] }
def k3m0 : Method := { name := "<init>", desc := "(J)V", sig := { parameters := [.long], returnType := none }, accessFlags := 1, code := some k3c0 }
def k3c1 : Code := { maxStack := 5, maxLocals := 3, code := prog_48_method_3_code, exceptionTable := #[], attributes := #[] }
def k3m1 : Method := { name := "nextLong", desc := "()J", sig := { parameters := [], returnType := some .long }, accessFlags := 1, code := some k3c1 }
/-- com/example/chains_to_rank/chainstorank/graph/SplitMix64 -/
def k3 : Class := { plain "com/example/chains_to_rank/chainstorank/graph/SplitMix64" (some 0) with
  accessFlags := 33
  interfaces := #[2]
  cf := some (fileOf pool3 8 #[] #[{ accessFlags := 1, nameIndex := 5, descriptorIndex := 26, attributes := #[] }, { accessFlags := 1, nameIndex := 29, descriptorIndex := 30, attributes := #[] }] 33 2 #[46] #[{ accessFlags := 26, nameIndex := 48, descriptorIndex := 12, attributes := #[] }, { accessFlags := 26, nameIndex := 50, descriptorIndex := 12, attributes := #[] }, { accessFlags := 2, nameIndex := 11, descriptorIndex := 12, attributes := #[] }])
  fields := #[{ name := "GAMMA", type := .long, accessFlags := 26, slot := 0, constantValue := 0 }, { name := "UNSIGNED_INT", type := .long, accessFlags := 26, slot := 1, constantValue := 0 }, { name := "state", type := .long, accessFlags := 2, slot := 0, constantValue := 0 }]
  methods := #[k3m0, k3m1]
  instanceTypes := #[.long]
  staticTypes := #[.long, .long]
  resolved := Array.replicate 76 none
  statics := none }

def pool4 : Array CpInfo := pool [(1, u "java/lang/Cloneable"), (0, .class_ 1), (0, u "java/lang/Object"), (0, .class_ 3)] 3

/-- java/lang/Cloneable -/
def k4 : Class := { plain "java/lang/Cloneable" (some 0) with
  accessFlags := 1537
  interfaces := #[]
  cf := some (fileOf pool4 2 #[] #[] 1537 4 #[] #[])
  fields := #[]
  methods := #[]
  instanceTypes := #[]
  staticTypes := #[]
  resolved := Array.replicate 8 none
  statics := none }

def pool5 : Array CpInfo := pool [(1, u "java/io/Serializable"), (0, .class_ 1), (0, u "java/lang/Object"), (0, .class_ 3)] 3

/-- java/io/Serializable -/
def k5 : Class := { plain "java/io/Serializable" (some 0) with
  accessFlags := 1537
  interfaces := #[]
  cf := some (fileOf pool5 2 #[] #[] 1537 4 #[] #[])
  fields := #[]
  methods := #[]
  instanceTypes := #[]
  staticTypes := #[]
  resolved := Array.replicate 8 none
  statics := none }

/-- the primitive byte -/
def k6 : Class := { plain "byte" none with kind := .primitive 'B', accessFlags := 0x411 }
/-- [B -/
def k7 : Class := { plain "[B" (some 0) with kind := .array 6 .byte, interfaces := #[4, 5], accessFlags := 1041 }

/-- the primitive int -/
def k8 : Class := { plain "int" none with kind := .primitive 'I', accessFlags := 0x411 }
/-- [I -/
def k9 : Class := { plain "[I" (some 0) with kind := .array 8 .int, interfaces := #[4, 5], accessFlags := 1041 }

def heap : Heap := #[]
def classes : Array Class := #[k0, k1, k2, k3, k4, k5, k6, k7, k8, k9]
def interned : List (Array UInt16 × Addr) := []
def slotsUsed : Nat := 0
def theMethod : MethodId := ⟨1, 3⟩
def args0 : Array Value := #[.long 5]
def aboutOver (below : List Frame) : State where
  vm := { classes := classes, interned := interned.toArray }
  heap := heap
  slotsUsed := slotsUsed
  threads := #[{ frames := .invoking theMethod args0 :: below }]
def below0 : List Frame := [.native { method := ⟨0, 0⟩, args := #[] }]
def about1 : State := aboutOver below0
def p0 : Program := .bare "" "" ""
def e0 : Env := launch0.env 0 0 0
theorem w_frames : about1.frames = Frame.invoking theMethod args0 :: below0 := rfl
set_option maxRecDepth 65536 in
theorem w_args : argsFit about1.vm theMethod args0 = true := by decide +kernel
set_option maxRecDepth 65536 in
theorem w_heap : heapFits about1 = true := by decide +kernel
set_option maxRecDepth 65536 in
theorem w_runnable : about1.curStatus? = some .runnable := by decide +kernel
set_option maxRecDepth 65536 in
theorem w_alone : about1.alone = true := by decide +kernel
set_option maxRecDepth 65536 in
theorem w_named : about1.methodNamed? x = some theMethod := by decide +kernel
set_option maxRecDepth 65536 in
theorem w_hears : about1.hears theMethod below0 = true := by decide +kernel
set_option maxRecDepth 65536 in
theorem w_ripe : about1.ripe theMethod args0 below0 = true := by decide +kernel
theorem w_running : about1.status = .running := rfl
set_option maxRecDepth 65536 in
theorem w_room : about1.hasRoom e0.platform room_1 = true :=
  launch0.hasRoom_least _ room_1 (by decide +kernel) (by decide +kernel) (by decide +kernel) (by decide +kernel) (by decide +kernel) (by decide +kernel)
theorem allAtoms_all (ts : List Jvm.Cond) (a : Array Jvm.Value) (st : Jvm.State) : (allAtoms ts).before a st = ts.all (fun c => c.before a st) := by
  induction ts with
  | nil => rfl
  | cons c t ih =>
    show (Jvm.Cond.and c (allAtoms t)).before a st = _
    rw [Jvm.Cond.before_and, ih, List.all_cons]
def words1 : List Jvm.Cond := Jvm.Cond.code x code maxLocals ret :: tables_1
/-- a 'code' word, met by the world's own term for the bytes: nothing is compared byte by byte -/
theorem code_word {y : MethodName} {bytes : ByteArray} {mx : Nat} {rt : Option FieldType} {a : Array Value} {s : State} {m : MethodId} {meth : Method} {c : Code} (h1 : s.methodNamed? y = some m) (h2 : s.vm.method? m = some meth) (h3 : meth.code = some c) (h4 : c.code = bytes)
    (h5 : (c.maxLocals == mx && c.exceptionTable.isEmpty && decide (c.maxStack ≤ mostOperands) && decide (meth.sig.returnType = rt) && !meth.locks && decide (parseMethodDescriptor y.desc = some meth.sig)) = true) : (Jvm.Cond.code y bytes mx rt).before a s = true := by
  simp only [Bool.and_eq_true, beq_iff_eq, Bool.not_eq_true', decide_eq_true_eq] at h5
  obtain ⟨⟨⟨⟨⟨g1, g2⟩, g3⟩, g4⟩, g5⟩, g6⟩ := h5
  simp [Cond.before, Cond.holds, Cond.value, h1, h2, h3, h4, g1, g2, g3, g4, g5, g6]
def isCode : Jvm.Cond → Bool
  | .code _ _ _ _ => true
  | _ => false
theorem all_split {L : List Jvm.Cond} {P : Jvm.Cond → Bool} (h1 : L.all (fun c => isCode c || P c) = true) (h2 : ∀ c ∈ L.filter isCode, P c = true) : L.all P = true := by
  refine List.all_eq_true.mpr fun c hc => ?_
  have h := List.all_eq_true.mp h1 c hc
  rcases Bool.eq_false_or_eq_true (isCode c) with hi | hi
  · exact h2 c (List.mem_filter.mpr ⟨hc, hi⟩)
  · simpa [hi] using h
set_option maxRecDepth 65536 in
theorem w_c0 : (Jvm.Cond.code x code maxLocals ret).before args0 about1 = true := code_word (m := ⟨1, 3⟩) (meth := k1m3) (c := k1c3) (by decide +kernel) rfl rfl rfl (by decide +kernel)
set_option maxRecDepth 65536 in
theorem w_c1 : (Jvm.Cond.code ({ cls := "com/example/chains_to_rank/chainstorank/graph/SplitMix64", name := "<init>", desc := "(J)V" } : Jvm.MethodName) prog_48_method_1_code (3 : Nat) (Option.none : Option Jvm.ClassFile.FieldType)).before args0 about1 = true := code_word (m := ⟨3, 0⟩) (meth := k3m0) (c := k3c0) (by decide +kernel) rfl rfl rfl (by decide +kernel)
set_option maxRecDepth 65536 in
theorem w_c2 : (Jvm.Cond.code ({ cls := "java/lang/Object", name := "<init>", desc := "()V" } : Jvm.MethodName) object_method_1_code (1 : Nat) (Option.none : Option Jvm.ClassFile.FieldType)).before args0 about1 = true := code_word (m := ⟨0, 0⟩) (meth := k0m0) (c := k0c0) (by decide +kernel) rfl rfl rfl (by decide +kernel)
set_option maxRecDepth 65536 in
theorem w_c3 : (Jvm.Cond.code ({ cls := "com/example/chains_to_rank/chainstorank/graph/SplitMix64", name := "nextLong", desc := "()J" } : Jvm.MethodName) prog_48_method_3_code (3 : Nat) (Option.some Jvm.ClassFile.FieldType.long)).before args0 about1 = true := code_word (m := ⟨3, 1⟩) (meth := k3m1) (c := k3c1) (by decide +kernel) rfl rfl rfl (by decide +kernel)
set_option maxRecDepth 65536 in
theorem w_c4 : (Jvm.Cond.code ({ cls := "com/example/chains_to_rank/chainstorank/graph/SplitMix64NextLongPinLaw", name := "inverseOfOdd", desc := "(J)J" } : Jvm.MethodName) method_2_code (4 : Nat) (Option.some Jvm.ClassFile.FieldType.long)).before args0 about1 = true := code_word (m := ⟨1, 1⟩) (meth := k1m1) (c := k1c1) (by decide +kernel) rfl rfl rfl (by decide +kernel)
set_option maxRecDepth 65536 in
theorem w_c5 : (Jvm.Cond.code ({ cls := "com/example/chains_to_rank/chainstorank/graph/SplitMix64NextLongPinLaw", name := "unmix", desc := "(J)J" } : Jvm.MethodName) method_3_code (10 : Nat) (Option.some Jvm.ClassFile.FieldType.long)).before args0 about1 = true := code_word (m := ⟨1, 2⟩) (meth := k1m2) (c := k1c2) (by decide +kernel) rfl rfl rfl (by decide +kernel)
def codes1 : List Jvm.Cond := [Jvm.Cond.code x code maxLocals ret, Jvm.Cond.code ({ cls := "com/example/chains_to_rank/chainstorank/graph/SplitMix64", name := "<init>", desc := "(J)V" } : Jvm.MethodName) prog_48_method_1_code (3 : Nat) (Option.none : Option Jvm.ClassFile.FieldType), Jvm.Cond.code ({ cls := "java/lang/Object", name := "<init>", desc := "()V" } : Jvm.MethodName) object_method_1_code (1 : Nat) (Option.none : Option Jvm.ClassFile.FieldType), Jvm.Cond.code ({ cls := "com/example/chains_to_rank/chainstorank/graph/SplitMix64", name := "nextLong", desc := "()J" } : Jvm.MethodName) prog_48_method_3_code (3 : Nat) (Option.some Jvm.ClassFile.FieldType.long), Jvm.Cond.code ({ cls := "com/example/chains_to_rank/chainstorank/graph/SplitMix64NextLongPinLaw", name := "inverseOfOdd", desc := "(J)J" } : Jvm.MethodName) method_2_code (4 : Nat) (Option.some Jvm.ClassFile.FieldType.long), Jvm.Cond.code ({ cls := "com/example/chains_to_rank/chainstorank/graph/SplitMix64NextLongPinLaw", name := "unmix", desc := "(J)J" } : Jvm.MethodName) method_3_code (10 : Nat) (Option.some Jvm.ClassFile.FieldType.long)]
set_option maxRecDepth 65536 in
theorem codes_eq : words1.filter isCode = codes1 := rfl
theorem w_codes : ∀ c ∈ words1.filter isCode, c.before args0 about1 = true := by
  rw [codes_eq]
  intro c hc
  simp only [codes1, List.mem_cons, List.not_mem_nil, or_false] at hc
  rcases hc with rfl | rfl | rfl | rfl | rfl | rfl
  · exact w_c0
  · exact w_c1
  · exact w_c2
  · exact w_c3
  · exact w_c4
  · exact w_c5
set_option maxRecDepth 65536 in
theorem w_t1 : (words1.take 24).all (fun c => isCode c || c.before args0 about1) = true := by decide +kernel
set_option maxRecDepth 65536 in
theorem w_t2 : (words1.drop 24).all (fun c => isCode c || c.before args0 about1) = true := by decide +kernel
theorem w_tables : (allAtoms (Jvm.Cond.code x code maxLocals ret :: tables_1)).before args0 about1 = true := by
  rw [allAtoms_all]
  show words1.all (fun c => c.before args0 about1) = true
  refine all_split ?_ w_codes
  rw [← List.take_append_drop 24 words1, List.all_append, w_t1, w_t2]
  rfl
set_option maxRecDepth 65536 in
theorem w_case : (Jvm.Cond.and given_1 narrow_1).before args0 about1 = true := by decide +kernel
theorem w_applies : (headSpec (Jvm.Cond.code x code maxLocals ret :: tables_1) room_1).applies x e0.platform about1 = true :=
  (Spec.applies_iff w_frames).mpr ⟨w_running, w_runnable, w_alone, w_named, w_hears, w_ripe, w_room, w_tables⟩
theorem atStart : AtStart classFile x code maxLocals ret World_1 tables_1 room_1 Calls_1 rest_1 Pre_1 launch0 p0 e0 about1 theMethod args0 below0 :=
  ⟨lists_1, trivial, launch0.admits_env _ _ _, launch0.least_env, fairChoices_fair.cas, fairChoices_fair.clock, w_frames, w_args, w_heap, w_applies, trivial, trivial, w_case⟩
end start1
theorem witness_1 : WitnessClaimed_1 := ⟨start1.p0, start1.e0, start1.about1, start1.theMethod, start1.args0, start1.below0, start1.atStart⟩
end Jvm.Pilot.@@N@@
