import JvmDerived
import JvmDerived.Pilot.@@N@@Statement
import JvmDerived.Pilot.@@N@@Code
set_option linter.unusedVariables false
set_option linter.unusedSimpArgs false
namespace Jvm.Pilot.@@N@@
open Jvm Jvm.ClassFile Sem Op Lib Jvm.Free Jvm.Stand Jvm.LawKit Jvm.RoadKit Bundle Jvm.FP Jvm.Free.Fl Jvm.Pilot.@@N@@.Jvm.D
def own_Fin (p : Program) (e : Env) (below : List Frame) (P : State → Outcome → Prop) (a : State) : Prop := ∃ t o, Steps p.tables e below a t ∧ t.status = .running ∧ Ended t below o ∧ P t o
theorem own_fin {p : Program} {e : Env} {below : List Frame} {P : State → Outcome → Prop} {a b : State} (k : ∀ t, Steps p.tables e below b t → Steps p.tables e below a t) (h : own_Fin p e below P b) : own_Fin p e below P a := by
  obtain ⟨t, o, s, r⟩ := h
  exact ⟨t, o, k t s, r⟩
theorem own_rw {T : State} {h : Heap} {a : Addr} {c : Cell} (e : T.heap = h) (q : h[a]? = some c) : T.heap[a]? = some c := by rw [e]; exact q
theorem own_StaKeep {Z : State} {h : Heap} {C n d : String} {v : Value} {n0 : Nat} (O : Old Z n0 h) (F : Sta Z Z.heap C n d v) : Sta Z h C n d v := F.ext O.2

def own_T (Z : State) (h : Heap) (a : Addr) (ty : FieldType) (z : Int32) (f : Int32 → Int32) : Prop := ∃ c : Cell, Arr Z h a c ty ∧ c.slots.size = z.toNatClampNeg ∧ ¬ z < 0 ∧ ∀ j : Int32, ¬ (j < 0 ∨ c.slots.size ≤ j.toNatClampNeg) → c.slots[j.toNatClampNeg]? = some (.int (f j))
def own_up (f : Int32 → Int32) (j x : Int32) : Int32 → Int32 := fun i => if j = i then x else f i
section OwnT
variable {Z : State} {h h' : Heap} {a b : Addr} {ty : FieldType} {z : Int32} {f g : Int32 → Int32}
theorem own_T.lt (F : own_T Z h a ty z f) : a < h.size := by obtain ⟨c, A, -⟩ := F; exact A.lt
theorem own_T.ext (F : own_T Z h a ty z f) (E : Ext h h') : own_T Z h' a ty z f := by obtain ⟨c, A, r⟩ := F; exact ⟨c, A.ext E, r⟩
theorem own_T.other {sl : Nat} {v : Value} (F : own_T Z h a ty z f) (W : Wr h h' b sl v) (q : a ≠ b) : own_T Z h' a ty z f := by obtain ⟨c, A, r⟩ := F; exact ⟨c, A.other W q, r⟩
theorem own_T.keep {ws : List Addr} (F : own_T Z h a ty z f) (K : Keep h h' ws) (q : a ∉ ws) : own_T Z h' a ty z f := by obtain ⟨c, A, r⟩ := F; exact ⟨c, ⟨K.2.1 a c A.1 q, A.2⟩, r⟩
theorem own_T.congr (F : own_T Z h a ty z f) (q : ∀ j : Int32, ¬ j < 0 ∧ j < z → f j = g j) : own_T Z h a ty z g := by
  obtain ⟨c, A, S, N, H⟩ := F
  refine ⟨c, A, S, N, fun j hj => ?_⟩
  have h1 : ¬ j < 0 := fun y => hj (Or.inl y)
  have h2 : j < z := by
    have h3 : ¬ c.slots.size ≤ j.toNatClampNeg := fun y => hj (Or.inr y)
    rw [S] at h3
    have e1 := nat_of h1
    have e2 := nat_of N
    rw [Int32.lt_iff_toInt_lt]; omega
  rw [H j hj, q j ⟨h1, h2⟩]
theorem own_T.set {j x : Int32} (F : own_T Z h a ty z f) (W : Wr h h' a j.toNatClampNeg (.int x)) (q : ¬ j < 0 ∧ j < z) : own_T Z h' a ty z (own_up f j x) := by
  obtain ⟨c, A, S, N, H⟩ := F
  refine ⟨_, A.same W, by rw [sz_set]; exact S, N, fun i hi => ?_⟩
  rw [sz_set] at hi
  unfold own_up
  by_cases e : j = i
  · rw [if_pos e]; exact get_hit (inb_of S q) e.symm
  · rw [if_neg e, get_miss q.1 (fun y => hi (Or.inl y)) (Ne.symm e)]; exact H i hi
theorem own_T.new {k : ClassId} (A : Arr Z h a (newA k ty z) ty) (q : ¬ z < 0) (d : defaultValue ty = .int 0) : own_T Z h a ty z (fun _ => 0) :=
  ⟨_, A, sz_new _ _ _, q, fun j hj => by rw [← d]; exact get_new (by rw [sz_new] at hj; exact hj)⟩
end OwnT
def own_TD (Z : State) (h : Heap) (a : Addr) (z : Int32) (f : Int32 → UInt64) : Prop := ∃ c : Cell, Arr Z h a c .double ∧ c.slots.size = z.toNatClampNeg ∧ ¬ z < 0 ∧ ∀ j : Int32, ¬ (j < 0 ∨ c.slots.size ≤ j.toNatClampNeg) → c.slots[j.toNatClampNeg]? = some (.double (f j))
def own_upD (f : Int32 → UInt64) (j : Int32) (x : UInt64) : Int32 → UInt64 := fun i => if j = i then x else f i
section OwnTD
variable {Z : State} {h h' : Heap} {a b : Addr} {z : Int32} {f g : Int32 → UInt64}
theorem own_TD.lt (F : own_TD Z h a z f) : a < h.size := by obtain ⟨c, A, -⟩ := F; exact A.lt
theorem own_TD.ext (F : own_TD Z h a z f) (E : Ext h h') : own_TD Z h' a z f := by obtain ⟨c, A, r⟩ := F; exact ⟨c, A.ext E, r⟩
theorem own_TD.other {sl : Nat} {v : Value} (F : own_TD Z h a z f) (W : Wr h h' b sl v) (q : a ≠ b) : own_TD Z h' a z f := by obtain ⟨c, A, r⟩ := F; exact ⟨c, A.other W q, r⟩
theorem own_TD.keep {ws : List Addr} (F : own_TD Z h a z f) (K : Keep h h' ws) (q : a ∉ ws) : own_TD Z h' a z f := by obtain ⟨c, A, r⟩ := F; exact ⟨c, ⟨K.2.1 a c A.1 q, A.2⟩, r⟩
theorem own_TD.congr (F : own_TD Z h a z f) (q : ∀ j : Int32, ¬ j < 0 ∧ j < z → f j = g j) : own_TD Z h a z g := by
  obtain ⟨c, A, S, N, H⟩ := F
  refine ⟨c, A, S, N, fun j hj => ?_⟩
  have h1 : ¬ j < 0 := fun y => hj (Or.inl y)
  have h2 : j < z := by
    have h3 : ¬ c.slots.size ≤ j.toNatClampNeg := fun y => hj (Or.inr y)
    rw [S] at h3
    have e1 := nat_of h1
    have e2 := nat_of N
    rw [Int32.lt_iff_toInt_lt]; omega
  rw [H j hj, q j ⟨h1, h2⟩]
theorem own_TD.set {j : Int32} {x : UInt64} (F : own_TD Z h a z f) (W : Wr h h' a j.toNatClampNeg (.double x)) (q : ¬ j < 0 ∧ j < z) : own_TD Z h' a z (own_upD f j x) := by
  obtain ⟨c, A, S, N, H⟩ := F
  refine ⟨_, A.same W, by rw [sz_set]; exact S, N, fun i hi => ?_⟩
  rw [sz_set] at hi
  unfold own_upD
  by_cases e : j = i
  · rw [if_pos e]; exact get_hit (inb_of S q) e.symm
  · rw [if_neg e, get_miss q.1 (fun y => hi (Or.inl y)) (Ne.symm e)]; exact H i hi
theorem own_TD.new {k : ClassId} (A : Arr Z h a (newA k .double z) .double) (q : ¬ z < 0) : own_TD Z h a z (fun _ => 0) :=
  ⟨_, A, sz_new _ _ _, q, fun j hj => by exact get_new (by rw [sz_new] at hj; exact hj)⟩
end OwnTD
theorem own_T.nn {Z : State} {h : Heap} {a : Addr} {ty : FieldType} {z : Int32} {f : Int32 → Int32} (F : own_T Z h a ty z f) : ¬ z < 0 := by obtain ⟨_, _, _, N, _⟩ := F; exact N
theorem own_bk {z : Int32} (h : ¬ z < 0) : Int32.ofNat z.toNatClampNeg = z := (back32 h).1
theorem own_nlt {z : Int32} (h : ¬ z < 0) : ¬ (Int32.ofNat z.toNatClampNeg < z) := by rw [own_bk h]; exact Int32.lt_irrefl (a := z)
theorem own_i32 {z : Int32} {i : Nat} (h : ¬ z < 0) (q : i < z.toNatClampNeg) : (Int32.ofNat i).toInt = i := by
  have := (back32 h).2
  exact Int32.toInt_ofNat_of_lt (by omega)
theorem own_ltz {z : Int32} {i : Nat} (h : ¬ z < 0) (q : i < z.toNatClampNeg) : Int32.ofNat i < z := by
  rw [Int32.lt_iff_toInt_lt, own_i32 h q, nat_of h]; omega
theorem own_nn {z : Int32} {i : Nat} (h : ¬ z < 0) (q : i < z.toNatClampNeg) : ¬ Int32.ofNat i < 0 := by
  rw [Int32.lt_iff_toInt_lt, own_i32 h q, show (0 : Int32).toInt = 0 from rfl]; omega
theorem own_cl {z : Int32} {i : Nat} (h : ¬ z < 0) (q : i < z.toNatClampNeg) : (Int32.ofNat i).toNatClampNeg = i := by
  rw [Int32.toNatClampNeg, own_i32 h q]; rfl
theorem own_one (i : Nat) : Int32.ofNat i + (1 : Int32) = Int32.ofNat (i + 1) := (Int32.ofNat_add i 1).symm
theorem own_jn {j z : Int32} (h1 : ¬ j < 0) (h0 : ¬ z < 0) (h2 : j < z) : j.toNatClampNeg < z.toNatClampNeg := by
  rw [Int32.lt_iff_toInt_lt, nat_of h1, nat_of h0] at h2; omega
theorem own_inz {z : Int32} {i : Nat} (h : ¬ z < 0) (q : i < z.toNatClampNeg) : ¬ Int32.ofNat i < 0 ∧ Int32.ofNat i < z := ⟨own_nn h q, own_ltz h q⟩
theorem own_upf {g q : Int32 → Int32} {z x : Int32} {i : Nat} (hz : ¬ z < 0) (hi : i < z.toNatClampNeg) (h : ∀ j : Int32, ¬ j < 0 → j.toNatClampNeg < i → g j = q j) (e : x = q (Int32.ofNat i)) : ∀ j : Int32, ¬ j < 0 → j.toNatClampNeg < i + 1 → own_up g (Int32.ofNat i) x j = q j := by
  intro j h1 h2
  unfold own_up
  by_cases c : Int32.ofNat i = j
  · rw [if_pos c, e, c]
  · rw [if_neg c]
    refine h j h1 (Nat.lt_of_le_of_ne (by omega) fun y => c ?_)
    apply Int32.toInt_inj.mp
    rw [own_i32 hz hi, nat_of h1, y]
theorem own_upz (j : Int32) (z : Int32) : ∀ i : Int32, ¬ i < 0 ∧ i < z → own_upD (fun _ => (0 : UInt64)) j 0 i = (fun _ => (0 : UInt64)) i := fun i _ => by unfold own_upD; split <;> rfl
def own_ms (f : Int32 → Int32) (p : UInt64) : Nat → Int32 → UInt64
  | 0 => fun _ => 0
  | k + 1 => own_upD (own_ms f p k) (f (Int32.ofNat k)) p
def own_sp (z : Int32) : UInt64 := FP.ddiv (4607182418800017408 : UInt64) (FP.i2d z)
theorem own_dz : cmpValue (FP.dcmp (0 : UInt64) (0 : UInt64)) .l = 0 := by decide +kernel
theorem own_c51 : FP.dmul (FP.l2d ((1 : Int64) + ((0 : Int32).toInt64))) (4377498837804122112 : UInt64) = (4377498837804122112 : UInt64) := by decide +kernel
theorem own_d4_0 : decode jdk_29_method_65_code 0 = .ok (.iload_n 0, 1) := by decide +kernel
theorem own_d4_1 : decode jdk_29_method_65_code 1 = .ok (.iload_n 1, 1) := by decide +kernel
theorem own_d4_2 : decode jdk_29_method_65_code 2 = .ok (.if_icmp .lt 7, 3) := by decide +kernel
theorem own_d4_9 : decode jdk_29_method_65_code 9 = .ok (.iload_n 1, 1) := by decide +kernel
theorem own_d4_10 : decode jdk_29_method_65_code 10 = .ok (.ireturn, 1) := by decide +kernel
theorem own_d4_5 : decode jdk_29_method_65_code 5 = .ok (.iload_n 0, 1) := by decide +kernel
theorem own_d4_6 : decode jdk_29_method_65_code 6 = .ok (.goto 4, 3) := by decide +kernel
theorem own_ef_rm_max (mM : MethodId) (x0 : Int32) (x1 : Int32) : entryFrame mM #[(.int x0), (.int x1)] 2 = mkF mM 0 #[.val (.int x0), .val (.int x1)] [] := by first | (simp [entryFrame, mkF, argsToLocals, Value.category]; done) | rfl
def Q_rm_max (Z : State) (p1 : Int32) (p2 : Int32) (h0 : Heap) (n0 : Nat) (vV : Option Value) (hH : Heap) (lA : List Loc) : Prop := vV = some (.int (if p1 < p2 then p2 else p1)) ∧ Fr n0 lA ∧ (hH = h0)
set_option maxRecDepth 65536 in
set_option maxHeartbeats 40000000 in
theorem rm_max (lL : Launch) (Z : State) (a0 : Array Value) (hw : ∀ d ∈ tables_1, d.before a0 Z = true) (ws : List Jvm.Cond) (p1 : Int32) (p2 : Int32) (h0 : Heap) (n0 : Nat) (Z0 : n0 ≤ h0.size) :
    MetFree lL (⟨"java/lang/Math", "max", "(II)I"⟩ : MethodName) (head1 (Jvm.Cond.code (⟨"java/lang/Math", "max", "(II)I"⟩ : MethodName) jdk_29_method_65_code 2 (some .int) :: ws) ({ frames := 0, cells := 0, slots := 0, locals := 0 } : Room)) (fun aA uU => aA = #[(.int p1), (.int p2)] ∧ Z.Warmed39 uU.vm ∧ uU.heap = h0) (fun _ _ _ _ _ => True) (fun _ uU oO uU' => ∃ vV lA, oO = .returned vV ∧ Q_rm_max Z p1 p2 h0 n0 vV uU'.heap lA ∧ FrameEnd uU oO uU' lA ({ frames := 0, cells := 0, slots := 0, locals := 0 } : Room).cells ({ frames := 0, cells := 0, slots := 0, locals := 0 } : Room).slots) := by
  refine MetFree.of_bodySF (Jvm.Free.JP.mathPlain rfl (by decide +kernel)) hisR ?_
  intro pP eE sS mM args below meth cC s₁ Bd hml0 hP hK
  obtain ⟨rfl, hZ, hh⟩ := hP
  have hx := Bd.exec
  have hby := Bd.bytes
  have hml : cC.maxLocals = 2 := hml0
  have hown : sS.vm.findClass "java/lang/Math" = some mM.cls := findClass_of_methodNamed Bd.named
  have hnm := (name_of_methodNamed Bd.named Bd.method).1
  have X0 : Stand pP lL eE ({ frames := 0, cells := 0, slots := 0, locals := 0 } : Room) sS mM #[(.int p1), (.int p2)] below meth cC s₁ [] 0 0 := Stand.of_body Bd
  have e0 : s₁.heap = h0 := by rw [← hh, Bd.state]; rfl
  have N0 := Fr.nil n0
  have K0 := Keep.refl h0 ([] : List Addr)
  show own_Fin pP eE below (fun tT oO => ∃ vV lA, oO = .returned vV ∧ Q_rm_max Z p1 p2 h0 n0 vV tT.heap lA ∧ FrameEnd sS oO tT lA ({ frames := 0, cells := 0, slots := 0, locals := 0 } : Room).cells ({ frames := 0, cells := 0, slots := 0, locals := 0 } : Room).slots) (s₁.setTop (entryFrame mM #[(.int p1), (.int p2)] 2))
  refine own_fin (b := s₁.setTop (mkF mM 0 #[.val (.int p1), .val (.int p2)] [])) (fun tT kK => castTop (own_ef_rm_max mM p1 p2) kK) ?_
  refine own_fin (b := s₁.setTop (mkF mM 2 #[.val (.int p1), .val (.int p2)] [(.int p2), (.int p1)])) (fun tT kK => ?_) ?_
  · show Steps pP.tables eE below (s₁.setTop (mkF mM 0 #[.val (.int p1), .val (.int p2)] [])) tT
    refine XS.iloadN X0.here hx rfl (Jvm.hb hby own_d4_0) rfl ?_
    show Steps pP.tables eE below (s₁.setTop (mkF mM 1 #[.val (.int p1), .val (.int p2)] [(.int p1)])) tT
    refine XS.iloadN X0.here hx rfl (Jvm.hb hby own_d4_1) rfl ?_
    show Steps pP.tables eE below (s₁.setTop (mkF mM 2 #[.val (.int p1), .val (.int p2)] [(.int p2), (.int p1)])) tT
    exact kK
  by_cases hc2_1_ : p1 < p2
  · refine own_fin (b := s₁.setTop (mkF mM 10 #[.val (.int p1), .val (.int p2)] [(.int p2)])) (fun tT kK => ?_) ?_
    · show Steps pP.tables eE below (s₁.setTop (mkF mM 2 #[.val (.int p1), .val (.int p2)] [(.int p2), (.int p1)])) tT
      refine XS.icmpYes X0.here hx rfl (pc0 := 2) (pc' := 9) rfl (Jvm.hb hby own_d4_2) rfl (tlt (hc2_1_ : p1 < p2)).1 (by decide) (by decide) ?_
      show Steps pP.tables eE below (s₁.setTop (mkF mM 9 #[.val (.int p1), .val (.int p2)] [])) tT
      refine XS.iloadN X0.here hx rfl (Jvm.hb hby own_d4_9) rfl ?_
      show Steps pP.tables eE below (s₁.setTop (mkF mM 10 #[.val (.int p1), .val (.int p2)] [(.int p2)])) tT
      exact kK
    obtain ⟨fs, hr, hrun, hended, hW, hsame⟩ := X0.leave (v := some (.int p2)) (fun h => by rw [Bd.returns] at h; cases h)
    refine ⟨_, _, ?_, hrun, hended, _, _, rfl, ?_, ⟨_, rfl⟩, hW, hsame.mono (by decide) (by decide)⟩
    · show Steps pP.tables eE below (s₁.setTop (mkF mM 10 #[.val (.int p1), .val (.int p2)] [(.int p2)])) _
      exact retOut X0 hx Bd.returns rfl (Or.inl ⟨rfl, Or.inl rfl, _, rfl⟩) (Jvm.hb hby own_d4_10) hr
    · show Q_rm_max Z p1 p2 h0 n0 _ s₁.heap _
      rw [e0]
      exact ⟨by rw [if_pos hc2_1_], N0, rfl⟩
  · refine own_fin (b := s₁.setTop (mkF mM 10 #[.val (.int p1), .val (.int p2)] [(.int p1)])) (fun tT kK => ?_) ?_
    · show Steps pP.tables eE below (s₁.setTop (mkF mM 2 #[.val (.int p1), .val (.int p2)] [(.int p2), (.int p1)])) tT
      refine XS.icmpNo X0.here hx rfl (Jvm.hb hby own_d4_2) rfl (flt (hc2_1_ : ¬ (p1 < p2))).1 ?_
      show Steps pP.tables eE below (s₁.setTop (mkF mM 5 #[.val (.int p1), .val (.int p2)] [])) tT
      refine XS.iloadN X0.here hx rfl (Jvm.hb hby own_d4_5) rfl ?_
      show Steps pP.tables eE below (s₁.setTop (mkF mM 6 #[.val (.int p1), .val (.int p2)] [(.int p1)])) tT
      refine XS.goto X0.here hx rfl (pc0 := 6) (pc' := 10) rfl (Jvm.hb hby own_d4_6) (by decide) (by decide) ?_
      show Steps pP.tables eE below (s₁.setTop (mkF mM 10 #[.val (.int p1), .val (.int p2)] [(.int p1)])) tT
      exact kK
    obtain ⟨fs, hr, hrun, hended, hW, hsame⟩ := X0.leave (v := some (.int p1)) (fun h => by rw [Bd.returns] at h; cases h)
    refine ⟨_, _, ?_, hrun, hended, _, _, rfl, ?_, ⟨_, rfl⟩, hW, hsame.mono (by decide) (by decide)⟩
    · show Steps pP.tables eE below (s₁.setTop (mkF mM 10 #[.val (.int p1), .val (.int p2)] [(.int p1)])) _
      exact retOut X0 hx Bd.returns rfl (Or.inl ⟨rfl, Or.inl rfl, _, rfl⟩) (Jvm.hb hby own_d4_10) hr
    · show Q_rm_max Z p1 p2 h0 n0 _ s₁.heap _
      rw [e0]
      exact ⟨by rw [if_neg hc2_1_], N0, rfl⟩
theorem own_d1_0 : decode prog_28_method_1_code 0 = .ok (.aload_n 0, 1) := by decide +kernel
theorem own_d1_1 : decode prog_28_method_1_code 1 = .ok (.invokespecial 1, 3) := by decide +kernel
theorem own_d1_4 : decode prog_28_method_1_code 4 = .ok (.aload_n 0, 1) := by decide +kernel
theorem own_d1_5 : decode prog_28_method_1_code 5 = .ok (.iload_n 1, 1) := by decide +kernel
theorem own_d1_6 : decode prog_28_method_1_code 6 = .ok (.newarray .double, 2) := by decide +kernel
theorem own_d1_8 : decode prog_28_method_1_code 8 = .ok (.putfield 7, 3) := by decide +kernel
theorem own_d1_11 : decode prog_28_method_1_code 11 = .ok (.aload_n 0, 1) := by decide +kernel
theorem own_d1_12 : decode prog_28_method_1_code 12 = .ok (.iload_n 1, 1) := by decide +kernel
theorem own_d1_13 : decode prog_28_method_1_code 13 = .ok (.newarray .double, 2) := by decide +kernel
theorem own_d1_15 : decode prog_28_method_1_code 15 = .ok (.putfield 13, 3) := by decide +kernel
theorem own_d1_18 : decode prog_28_method_1_code 18 = .ok (.aload_n 0, 1) := by decide +kernel
theorem own_d1_19 : decode prog_28_method_1_code 19 = .ok (.iload_n 1, 1) := by decide +kernel
theorem own_d1_20 : decode prog_28_method_1_code 20 = .ok (.newarray .double, 2) := by decide +kernel
theorem own_d1_22 : decode prog_28_method_1_code 22 = .ok (.putfield 16, 3) := by decide +kernel
theorem own_d1_25 : decode prog_28_method_1_code 25 = .ok (.return_, 1) := by decide +kernel
theorem own_pn_com_example_chains_to_rank_chainstorank_graph_DoubleArithmetic : plainName "com/example/chains_to_rank/chainstorank/graph/DoubleArithmetic" = true := by first | (simp [plainName, overriddenIn]; done) | decide +kernel
theorem own_ef_rm_init (mM : MethodId) (x0 : Addr) (x1 : Int32) : entryFrame mM #[(.ref x0), (.int x1)] 2 = mkF mM 0 #[.val (.ref x0), .val (.int x1)] [] := by first | (simp [entryFrame, mkF, argsToLocals, Value.category]; done) | rfl
def Q_rm_init (Z : State) (a : Addr) (h0 : Heap) (n0 : Nat) (vV : Option Value) (hH : Heap) (lA : List Loc) : Prop := ∃ b1 : Addr, ∃ b2 : Addr, ∃ b3 : Addr, vV = none ∧ Fr n0 lA ∧ (Keep h0 hH [a]) ∧ (h0.size ≤ b1) ∧ (h0.size ≤ b3) ∧ (b1 ≠ b3) ∧ (Exa Z hH a "com/example/chains_to_rank/chainstorank/graph/DoubleArithmetic") ∧ (Fld Z hH a "com/example/chains_to_rank/chainstorank/graph/DoubleArithmetic" "mass" "[D" (.ref b1)) ∧ (Fld Z hH a "com/example/chains_to_rank/chainstorank/graph/DoubleArithmetic" "arriving" "[D" (.ref b3)) ∧ (Fld Z hH a "com/example/chains_to_rank/chainstorank/graph/DoubleArithmetic" "roundings" "J" (.long (0 : Int64))) ∧ (Fld Z hH a "com/example/chains_to_rank/chainstorank/graph/DoubleArithmetic" "mostShares" "I" (.int (0 : Int32))) ∧ (own_TD Z hH b1 (4 : Int32) (fun _ => (0 : UInt64))) ∧ (own_TD Z hH b3 (4 : Int32) (fun _ => (0 : UInt64)))
set_option maxRecDepth 65536 in
set_option maxHeartbeats 40000000 in
theorem rm_init (lL : Launch) (Z : State) (a0 : Array Value) (hw : ∀ d ∈ tables_1, d.before a0 Z = true) (ws : List Jvm.Cond) (a : Addr) (h0 : Heap) (n0 : Nat) (Z0 : n0 ≤ h0.size) (Ea : Exa Z h0 a "com/example/chains_to_rank/chainstorank/graph/DoubleArithmetic") (F0 : Fld Z h0 a "com/example/chains_to_rank/chainstorank/graph/DoubleArithmetic" "mass" "[D" .null) (F1 : Fld Z h0 a "com/example/chains_to_rank/chainstorank/graph/DoubleArithmetic" "share" "[D" .null) (F2 : Fld Z h0 a "com/example/chains_to_rank/chainstorank/graph/DoubleArithmetic" "arriving" "[D" .null) (F3 : Fld Z h0 a "com/example/chains_to_rank/chainstorank/graph/DoubleArithmetic" "roundings" "J" (.long (0 : Int64))) (F4 : Fld Z h0 a "com/example/chains_to_rank/chainstorank/graph/DoubleArithmetic" "mostShares" "I" (.int (0 : Int32))) (ga : n0 ≤ a) :
    MetFree lL (⟨"com/example/chains_to_rank/chainstorank/graph/DoubleArithmetic", "<init>", "(I)V"⟩ : MethodName) (head1 (Jvm.Cond.code (⟨"com/example/chains_to_rank/chainstorank/graph/DoubleArithmetic", "<init>", "(I)V"⟩ : MethodName) prog_28_method_1_code 2 none :: ws) ({ frames := 1, cells := 3, slots := 12, locals := 12 } : Room)) (fun aA uU => aA = #[(.ref a), (.int (4 : Int32))] ∧ Z.Warmed39 uU.vm ∧ uU.heap = h0) (fun _ _ _ _ _ => True) (fun _ uU oO uU' => ∃ vV lA, oO = .returned vV ∧ Q_rm_init Z a h0 n0 vV uU'.heap lA ∧ FrameEnd uU oO uU' lA ({ frames := 1, cells := 3, slots := 12, locals := 12 } : Room).cells ({ frames := 1, cells := 3, slots := 12, locals := 12 } : Room).slots) := by
  refine MetFree.of_bodySF (plainFor_of_name own_pn_com_example_chains_to_rank_chainstorank_graph_DoubleArithmetic) hisR ?_
  intro pP eE sS mM args below meth cC s₁ Bd hml0 hP hK
  obtain ⟨rfl, hZ, hh⟩ := hP
  have hx := Bd.exec
  have hby := Bd.bytes
  have hml : cC.maxLocals = 2 := hml0
  have hown : sS.vm.findClass "com/example/chains_to_rank/chainstorank/graph/DoubleArithmetic" = some mM.cls := findClass_of_methodNamed Bd.named
  have hnm := (name_of_methodNamed Bd.named Bd.method).1
  have X0 : Stand pP lL eE ({ frames := 1, cells := 3, slots := 12, locals := 12 } : Room) sS mM #[(.ref a), (.int (4 : Int32))] below meth cC s₁ [] 0 0 := Stand.of_body Bd
  have e0 : s₁.heap = h0 := by rw [← hh, Bd.state]; rfl
  have N0 := Fr.nil n0
  have K0 := Keep.refl h0 [a]
  show own_Fin pP eE below (fun tT oO => ∃ vV lA, oO = .returned vV ∧ Q_rm_init Z a h0 n0 vV tT.heap lA ∧ FrameEnd sS oO tT lA ({ frames := 1, cells := 3, slots := 12, locals := 12 } : Room).cells ({ frames := 1, cells := 3, slots := 12, locals := 12 } : Room).slots) (s₁.setTop (entryFrame mM #[(.ref a), (.int (4 : Int32))] 2))
  refine own_fin (b := s₁.setTop (mkF mM 0 #[.val (.ref a), .val (.int (4 : Int32))] [])) (fun tT kK => castTop (own_ef_rm_init mM a (4 : Int32)) kK) ?_
  refine own_fin (b := s₁.setTop (mkF mM 1 #[.val (.ref a), .val (.int (4 : Int32))] [(.ref a)])) (fun tT kK => ?_) ?_
  · show Steps pP.tables eE below (s₁.setTop (mkF mM 0 #[.val (.ref a), .val (.int (4 : Int32))] [])) tT
    refine XS.aloadN X0.here hx rfl (Jvm.hb hby own_d1_0) rfl rfl ?_
    show Steps pP.tables eE below (s₁.setTop (mkF mM 1 #[.val (.ref a), .val (.int (4 : Int32))] [(.ref a)])) tT
    exact kK
  obtain ⟨T1_, X1_, e1_, st1_⟩ := initO X0 hx hZ hown (hw _ (List.mem_of_getElem? (i := 8) rfl)) (hw _ (List.mem_of_getElem? (i := 9) rfl)) (hw _ (List.mem_of_getElem? (i := 10) rfl)) e0 (g := (mkF mM 1 #[.val (.ref a), .val (.int (4 : Int32))] [(.ref a)])) rfl (by rw [hml]; rfl) rfl (Jvm.hb hby own_d1_1) (by decide) (W := 0) (by show 2 * 0 + _ ≤ _; exact Nat.le_of_eq rfl) (by decide)
  refine own_fin st1_ ?_
  show own_Fin pP eE below _ (T1_.setTop (mkF mM 4 #[.val (.ref a), .val (.int (4 : Int32))] []))
  refine own_fin (b := T1_.setTop (mkF mM 6 #[.val (.ref a), .val (.int (4 : Int32))] [(.int (4 : Int32)), (.ref a)])) (fun tT kK => ?_) ?_
  · show Steps pP.tables eE below (T1_.setTop (mkF mM 4 #[.val (.ref a), .val (.int (4 : Int32))] [])) tT
    refine XS.aloadN X1_.here hx rfl (Jvm.hb hby own_d1_4) rfl rfl ?_
    show Steps pP.tables eE below (T1_.setTop (mkF mM 5 #[.val (.ref a), .val (.int (4 : Int32))] [(.ref a)])) tT
    refine XS.iloadN X1_.here hx rfl (Jvm.hb hby own_d1_5) rfl ?_
    show Steps pP.tables eE below (T1_.setTop (mkF mM 6 #[.val (.ref a), .val (.int (4 : Int32))] [(.int (4 : Int32)), (.ref a)])) tT
    exact kK
  obtain ⟨T2_, h2_, k2_, X2_, e2_, E2_, A2_, st2_⟩ := newP X1_ hx hZ (hw _ (List.mem_of_getElem? (i := 11) rfl)) e1_ (g := (mkF mM 6 #[.val (.ref a), .val (.int (4 : Int32))] [(.int (4 : Int32)), (.ref a)])) rfl (Jvm.hb hby own_d1_6) rfl (by decide) (cap := 4) (by decide) (by decide) (by decide) (by decide)
  obtain ⟨b2_, g2_⟩ : ∃ z, z = h0.size := ⟨_, rfl⟩
  rw [← g2_] at A2_ st2_
  have sz_b2_ : h0.size ≤ b2_ := Nat.le_trans K0.1 (Nat.le_of_eq g2_.symm)
  have ge_b2_ : n0 ≤ b2_ := Nat.le_trans Z0 sz_b2_
  have ne3_ : a ≠ b2_ := Nat.ne_of_lt (Nat.lt_of_lt_of_le Ea.lt (Nat.le_of_eq g2_.symm))
  have fc4_ := Ea.ext E2_
  have fc5_ := F0.ext E2_
  have fc6_ := F1.ext E2_
  have fc7_ := F2.ext E2_
  have fc8_ := F3.ext E2_
  have fc9_ := F4.ext E2_
  have K2_ := K0.ext E2_
  have V2_ : own_TD Z h2_ b2_ (4 : Int32) (fun _ => (0 : UInt64)) := own_TD.new A2_ (by decide)
  refine own_fin st2_ ?_
  show own_Fin pP eE below _ (T2_.setTop (mkF mM 8 #[.val (.ref a), .val (.int (4 : Int32))] [(.ref b2_), (.ref a)]))
  obtain ⟨T10_, h10_, X10_, e10_, W10_, st10_⟩ := putF X2_ hx hZ hown (host := "") (Or.inl (hw _ (List.mem_of_getElem? (i := 12) rfl))) Via.refl e2_ fc5_ fc4_ (Or.inr ⟨(hw _ (List.mem_of_getElem? (i := 13) rfl)), rfl, hnm⟩) (hw _ (List.mem_of_getElem? (i := 3) rfl)) (ty := (.array .double)) (by decide) rfl rfl (g := (mkF mM 8 #[.val (.ref a), .val (.int (4 : Int32))] [(.ref b2_), (.ref a)])) rfl rfl (Jvm.hb hby own_d1_8)
  have Fw10_ := fc5_.same W10_
  have fc11_ := fc4_.wr W10_
  have fc12_ := fc6_.other W10_ (Or.inr (slot_ne (Or.inr (hw _ (List.mem_of_getElem? (i := 15) rfl))) (Or.inr (hw _ (List.mem_of_getElem? (i := 13) rfl))) (by decide) (t := (.array .double)) (t' := (.array .double)) (by decide) (by decide)))
  have fc13_ := fc7_.other W10_ (Or.inr (slot_ne (Or.inr (hw _ (List.mem_of_getElem? (i := 17) rfl))) (Or.inr (hw _ (List.mem_of_getElem? (i := 13) rfl))) (by decide) (t := (.array .double)) (t' := (.array .double)) (by decide) (by decide)))
  have fc14_ := fc8_.other W10_ (Or.inr (slot_ne (Or.inl (hw _ (List.mem_of_getElem? (i := 40) rfl))) (Or.inr (hw _ (List.mem_of_getElem? (i := 13) rfl))) (by decide) (t := .long) (t' := (.array .double)) (by decide) (by decide)))
  have fc15_ := fc9_.other W10_ (Or.inr (slot_ne (Or.inl (hw _ (List.mem_of_getElem? (i := 24) rfl))) (Or.inr (hw _ (List.mem_of_getElem? (i := 13) rfl))) (by decide) (t := .int) (t' := (.array .double)) (by decide) (by decide)))
  have fc16_ := V2_.other W10_ (Ne.symm ne3_)
  have K10_ := K2_.wr W10_ (Or.inl (List.mem_of_getElem? (i := 0) rfl))
  have N10_ := Fr.snoc X10_ N0 ga
  refine own_fin st10_ ?_
  show own_Fin pP eE below _ (T10_.setTop (mkF mM 11 #[.val (.ref a), .val (.int (4 : Int32))] []))
  refine own_fin (b := T10_.setTop (mkF mM 13 #[.val (.ref a), .val (.int (4 : Int32))] [(.int (4 : Int32)), (.ref a)])) (fun tT kK => ?_) ?_
  · show Steps pP.tables eE below (T10_.setTop (mkF mM 11 #[.val (.ref a), .val (.int (4 : Int32))] [])) tT
    refine XS.aloadN X10_.here hx rfl (Jvm.hb hby own_d1_11) rfl rfl ?_
    show Steps pP.tables eE below (T10_.setTop (mkF mM 12 #[.val (.ref a), .val (.int (4 : Int32))] [(.ref a)])) tT
    refine XS.iloadN X10_.here hx rfl (Jvm.hb hby own_d1_12) rfl ?_
    show Steps pP.tables eE below (T10_.setTop (mkF mM 13 #[.val (.ref a), .val (.int (4 : Int32))] [(.int (4 : Int32)), (.ref a)])) tT
    exact kK
  obtain ⟨T17_, h17_, k17_, X17_, e17_, E17_, A17_, st17_⟩ := newP X10_ hx hZ (hw _ (List.mem_of_getElem? (i := 11) rfl)) e10_ (g := (mkF mM 13 #[.val (.ref a), .val (.int (4 : Int32))] [(.int (4 : Int32)), (.ref a)])) rfl (Jvm.hb hby own_d1_13) rfl (by decide) (cap := 4) (by decide) (by decide) (by decide) (by decide)
  obtain ⟨b17_, g17_⟩ : ∃ z, z = h10_.size := ⟨_, rfl⟩
  rw [← g17_] at A17_ st17_
  have sz_b17_ : h0.size ≤ b17_ := Nat.le_trans K10_.1 (Nat.le_of_eq g17_.symm)
  have ge_b17_ : n0 ≤ b17_ := Nat.le_trans Z0 sz_b17_
  have ne18_ : a ≠ b17_ := Nat.ne_of_lt (Nat.lt_of_lt_of_le fc11_.lt (Nat.le_of_eq g17_.symm))
  have ne19_ : b2_ ≠ b17_ := Nat.ne_of_lt (Nat.lt_of_lt_of_le fc16_.lt (Nat.le_of_eq g17_.symm))
  have fc20_ := fc11_.ext E17_
  have fc21_ := Fw10_.ext E17_
  have fc22_ := fc12_.ext E17_
  have fc23_ := fc13_.ext E17_
  have fc24_ := fc14_.ext E17_
  have fc25_ := fc15_.ext E17_
  have fc26_ := fc16_.ext E17_
  have K17_ := K10_.ext E17_
  have V17_ : own_TD Z h17_ b17_ (4 : Int32) (fun _ => (0 : UInt64)) := own_TD.new A17_ (by decide)
  refine own_fin st17_ ?_
  show own_Fin pP eE below _ (T17_.setTop (mkF mM 15 #[.val (.ref a), .val (.int (4 : Int32))] [(.ref b17_), (.ref a)]))
  obtain ⟨T27_, h27_, X27_, e27_, W27_, st27_⟩ := putF X17_ hx hZ hown (host := "") (Or.inl (hw _ (List.mem_of_getElem? (i := 14) rfl))) Via.refl e17_ fc22_ fc20_ (Or.inr ⟨(hw _ (List.mem_of_getElem? (i := 15) rfl)), rfl, hnm⟩) (hw _ (List.mem_of_getElem? (i := 3) rfl)) (ty := (.array .double)) (by decide) rfl rfl (g := (mkF mM 15 #[.val (.ref a), .val (.int (4 : Int32))] [(.ref b17_), (.ref a)])) rfl rfl (Jvm.hb hby own_d1_15)
  have Fw27_ := fc22_.same W27_
  have fc28_ := fc20_.wr W27_
  have fc29_ := fc21_.other W27_ (Or.inr (slot_ne (Or.inr (hw _ (List.mem_of_getElem? (i := 13) rfl))) (Or.inr (hw _ (List.mem_of_getElem? (i := 15) rfl))) (by decide) (t := (.array .double)) (t' := (.array .double)) (by decide) (by decide)))
  have fc30_ := fc23_.other W27_ (Or.inr (slot_ne (Or.inr (hw _ (List.mem_of_getElem? (i := 17) rfl))) (Or.inr (hw _ (List.mem_of_getElem? (i := 15) rfl))) (by decide) (t := (.array .double)) (t' := (.array .double)) (by decide) (by decide)))
  have fc31_ := fc24_.other W27_ (Or.inr (slot_ne (Or.inl (hw _ (List.mem_of_getElem? (i := 40) rfl))) (Or.inr (hw _ (List.mem_of_getElem? (i := 15) rfl))) (by decide) (t := .long) (t' := (.array .double)) (by decide) (by decide)))
  have fc32_ := fc25_.other W27_ (Or.inr (slot_ne (Or.inl (hw _ (List.mem_of_getElem? (i := 24) rfl))) (Or.inr (hw _ (List.mem_of_getElem? (i := 15) rfl))) (by decide) (t := .int) (t' := (.array .double)) (by decide) (by decide)))
  have fc33_ := fc26_.other W27_ (Ne.symm ne3_)
  have fc34_ := V17_.other W27_ (Ne.symm ne18_)
  have K27_ := K17_.wr W27_ (Or.inl (List.mem_of_getElem? (i := 0) rfl))
  have N27_ := Fr.snoc X27_ N10_ ga
  refine own_fin st27_ ?_
  show own_Fin pP eE below _ (T27_.setTop (mkF mM 18 #[.val (.ref a), .val (.int (4 : Int32))] []))
  refine own_fin (b := T27_.setTop (mkF mM 20 #[.val (.ref a), .val (.int (4 : Int32))] [(.int (4 : Int32)), (.ref a)])) (fun tT kK => ?_) ?_
  · show Steps pP.tables eE below (T27_.setTop (mkF mM 18 #[.val (.ref a), .val (.int (4 : Int32))] [])) tT
    refine XS.aloadN X27_.here hx rfl (Jvm.hb hby own_d1_18) rfl rfl ?_
    show Steps pP.tables eE below (T27_.setTop (mkF mM 19 #[.val (.ref a), .val (.int (4 : Int32))] [(.ref a)])) tT
    refine XS.iloadN X27_.here hx rfl (Jvm.hb hby own_d1_19) rfl ?_
    show Steps pP.tables eE below (T27_.setTop (mkF mM 20 #[.val (.ref a), .val (.int (4 : Int32))] [(.int (4 : Int32)), (.ref a)])) tT
    exact kK
  obtain ⟨T35_, h35_, k35_, X35_, e35_, E35_, A35_, st35_⟩ := newP X27_ hx hZ (hw _ (List.mem_of_getElem? (i := 11) rfl)) e27_ (g := (mkF mM 20 #[.val (.ref a), .val (.int (4 : Int32))] [(.int (4 : Int32)), (.ref a)])) rfl (Jvm.hb hby own_d1_20) rfl (by decide) (cap := 4) (by decide) (by decide) (by decide) (by decide)
  obtain ⟨b35_, g35_⟩ : ∃ z, z = h27_.size := ⟨_, rfl⟩
  rw [← g35_] at A35_ st35_
  have sz_b35_ : h0.size ≤ b35_ := Nat.le_trans K27_.1 (Nat.le_of_eq g35_.symm)
  have ge_b35_ : n0 ≤ b35_ := Nat.le_trans Z0 sz_b35_
  have ne36_ : a ≠ b35_ := Nat.ne_of_lt (Nat.lt_of_lt_of_le fc28_.lt (Nat.le_of_eq g35_.symm))
  have ne37_ : b2_ ≠ b35_ := Nat.ne_of_lt (Nat.lt_of_lt_of_le fc33_.lt (Nat.le_of_eq g35_.symm))
  have ne38_ : b17_ ≠ b35_ := Nat.ne_of_lt (Nat.lt_of_lt_of_le fc34_.lt (Nat.le_of_eq g35_.symm))
  have fc39_ := fc28_.ext E35_
  have fc40_ := fc29_.ext E35_
  have fc41_ := Fw27_.ext E35_
  have fc42_ := fc30_.ext E35_
  have fc43_ := fc31_.ext E35_
  have fc44_ := fc32_.ext E35_
  have fc45_ := fc33_.ext E35_
  have fc46_ := fc34_.ext E35_
  have K35_ := K27_.ext E35_
  have V35_ : own_TD Z h35_ b35_ (4 : Int32) (fun _ => (0 : UInt64)) := own_TD.new A35_ (by decide)
  refine own_fin st35_ ?_
  show own_Fin pP eE below _ (T35_.setTop (mkF mM 22 #[.val (.ref a), .val (.int (4 : Int32))] [(.ref b35_), (.ref a)]))
  obtain ⟨T47_, h47_, X47_, e47_, W47_, st47_⟩ := putF X35_ hx hZ hown (host := "") (Or.inl (hw _ (List.mem_of_getElem? (i := 16) rfl))) Via.refl e35_ fc42_ fc39_ (Or.inr ⟨(hw _ (List.mem_of_getElem? (i := 17) rfl)), rfl, hnm⟩) (hw _ (List.mem_of_getElem? (i := 3) rfl)) (ty := (.array .double)) (by decide) rfl rfl (g := (mkF mM 22 #[.val (.ref a), .val (.int (4 : Int32))] [(.ref b35_), (.ref a)])) rfl rfl (Jvm.hb hby own_d1_22)
  have Fw47_ := fc42_.same W47_
  have fc48_ := fc39_.wr W47_
  have fc49_ := fc40_.other W47_ (Or.inr (slot_ne (Or.inr (hw _ (List.mem_of_getElem? (i := 13) rfl))) (Or.inr (hw _ (List.mem_of_getElem? (i := 17) rfl))) (by decide) (t := (.array .double)) (t' := (.array .double)) (by decide) (by decide)))
  have fc50_ := fc41_.other W47_ (Or.inr (slot_ne (Or.inr (hw _ (List.mem_of_getElem? (i := 15) rfl))) (Or.inr (hw _ (List.mem_of_getElem? (i := 17) rfl))) (by decide) (t := (.array .double)) (t' := (.array .double)) (by decide) (by decide)))
  have fc51_ := fc43_.other W47_ (Or.inr (slot_ne (Or.inl (hw _ (List.mem_of_getElem? (i := 40) rfl))) (Or.inr (hw _ (List.mem_of_getElem? (i := 17) rfl))) (by decide) (t := .long) (t' := (.array .double)) (by decide) (by decide)))
  have fc52_ := fc44_.other W47_ (Or.inr (slot_ne (Or.inl (hw _ (List.mem_of_getElem? (i := 24) rfl))) (Or.inr (hw _ (List.mem_of_getElem? (i := 17) rfl))) (by decide) (t := .int) (t' := (.array .double)) (by decide) (by decide)))
  have fc53_ := fc45_.other W47_ (Ne.symm ne3_)
  have fc54_ := fc46_.other W47_ (Ne.symm ne18_)
  have fc55_ := V35_.other W47_ (Ne.symm ne36_)
  have K47_ := K35_.wr W47_ (Or.inl (List.mem_of_getElem? (i := 0) rfl))
  have N47_ := Fr.snoc X47_ N27_ ga
  refine own_fin st47_ ?_
  show own_Fin pP eE below _ (T47_.setTop (mkF mM 25 #[.val (.ref a), .val (.int (4 : Int32))] []))
  obtain ⟨fs, hr, hrun, hended, hW, hsame⟩ := X47_.leave (v := none) (fun _ => rfl)
  refine ⟨_, _, ?_, hrun, hended, _, _, rfl, ?_, ⟨_, rfl⟩, hW, hsame.mono (by decide) (by decide)⟩
  · show Steps pP.tables eE below (T47_.setTop (mkF mM 25 #[.val (.ref a), .val (.int (4 : Int32))] [])) _
    exact X47_.returnOut hx Bd.returns (Jvm.hb hby own_d1_25) hr
  · show Q_rm_init Z a h0 n0 _ T47_.heap _
    rw [e47_]
    exact ⟨b2_, b17_, b35_, rfl, N47_, K47_, sz_b2_, sz_b35_, ne37_, fc48_, fc49_, Fw47_, fc51_, fc52_, fc53_, fc55_⟩
theorem own_d5_0 : decode prog_28_method_7_code 0 = .ok (.dload_n 2, 1) := by decide +kernel
theorem own_d5_1 : decode prog_28_method_7_code 1 = .ok (.dreturn, 1) := by decide +kernel
theorem own_ef_rm_kept (mM : MethodId) (x0 : Addr) (x1 : Int32) (x2 : UInt64) : entryFrame mM #[(.ref x0), (.int x1), (.double x2)] 4 = mkF mM 0 #[.val (.ref x0), .val (.int x1), .val (.double x2), .second] [] := by first | (simp [entryFrame, mkF, argsToLocals, Value.category]; done) | rfl
def Q_rm_kept (Z : State) (a : Addr) (p : Int32) (d : UInt64) (h0 : Heap) (n0 : Nat) (vV : Option Value) (hH : Heap) (lA : List Loc) : Prop := vV = some (.double d) ∧ Fr n0 lA ∧ (hH = h0)
set_option maxRecDepth 65536 in
set_option maxHeartbeats 40000000 in
theorem rm_kept (lL : Launch) (Z : State) (a0 : Array Value) (hw : ∀ d ∈ tables_1, d.before a0 Z = true) (ws : List Jvm.Cond) (a : Addr) (p : Int32) (d : UInt64) (h0 : Heap) (n0 : Nat) (Z0 : n0 ≤ h0.size) :
    MetFree lL (⟨"com/example/chains_to_rank/chainstorank/graph/DoubleArithmetic", "kept", "(ID)D"⟩ : MethodName) (head1 (Jvm.Cond.code (⟨"com/example/chains_to_rank/chainstorank/graph/DoubleArithmetic", "kept", "(ID)D"⟩ : MethodName) prog_28_method_7_code 4 (some .double) :: ws) ({ frames := 0, cells := 0, slots := 0, locals := 0 } : Room)) (fun aA uU => aA = #[(.ref a), (.int p), (.double d)] ∧ Z.Warmed39 uU.vm ∧ uU.heap = h0) (fun _ _ _ _ _ => True) (fun _ uU oO uU' => ∃ vV lA, oO = .returned vV ∧ Q_rm_kept Z a p d h0 n0 vV uU'.heap lA ∧ FrameEnd uU oO uU' lA ({ frames := 0, cells := 0, slots := 0, locals := 0 } : Room).cells ({ frames := 0, cells := 0, slots := 0, locals := 0 } : Room).slots) := by
  refine MetFree.of_bodySF (plainFor_of_name own_pn_com_example_chains_to_rank_chainstorank_graph_DoubleArithmetic) hisR ?_
  intro pP eE sS mM args below meth cC s₁ Bd hml0 hP hK
  obtain ⟨rfl, hZ, hh⟩ := hP
  have hx := Bd.exec
  have hby := Bd.bytes
  have hml : cC.maxLocals = 4 := hml0
  have hown : sS.vm.findClass "com/example/chains_to_rank/chainstorank/graph/DoubleArithmetic" = some mM.cls := findClass_of_methodNamed Bd.named
  have hnm := (name_of_methodNamed Bd.named Bd.method).1
  have X0 : Stand pP lL eE ({ frames := 0, cells := 0, slots := 0, locals := 0 } : Room) sS mM #[(.ref a), (.int p), (.double d)] below meth cC s₁ [] 0 0 := Stand.of_body Bd
  have e0 : s₁.heap = h0 := by rw [← hh, Bd.state]; rfl
  have N0 := Fr.nil n0
  have K0 := Keep.refl h0 ([] : List Addr)
  show own_Fin pP eE below (fun tT oO => ∃ vV lA, oO = .returned vV ∧ Q_rm_kept Z a p d h0 n0 vV tT.heap lA ∧ FrameEnd sS oO tT lA ({ frames := 0, cells := 0, slots := 0, locals := 0 } : Room).cells ({ frames := 0, cells := 0, slots := 0, locals := 0 } : Room).slots) (s₁.setTop (entryFrame mM #[(.ref a), (.int p), (.double d)] 4))
  refine own_fin (b := s₁.setTop (mkF mM 0 #[.val (.ref a), .val (.int p), .val (.double d), .second] [])) (fun tT kK => castTop (own_ef_rm_kept mM a p d) kK) ?_
  refine own_fin (b := s₁.setTop (mkF mM 1 #[.val (.ref a), .val (.int p), .val (.double d), .second] [(.double d)])) (fun tT kK => ?_) ?_
  · show Steps pP.tables eE below (s₁.setTop (mkF mM 0 #[.val (.ref a), .val (.int p), .val (.double d), .second] [])) tT
    refine XS.dloadN X0.here hx rfl (Jvm.hb hby own_d5_0) rfl ?_
    show Steps pP.tables eE below (s₁.setTop (mkF mM 1 #[.val (.ref a), .val (.int p), .val (.double d), .second] [(.double d)])) tT
    exact kK
  obtain ⟨fs, hr, hrun, hended, hW, hsame⟩ := X0.leave (v := some (.double d)) (fun h => by rw [Bd.returns] at h; cases h)
  refine ⟨_, _, ?_, hrun, hended, _, _, rfl, ?_, ⟨_, rfl⟩, hW, hsame.mono (by decide) (by decide)⟩
  · show Steps pP.tables eE below (s₁.setTop (mkF mM 1 #[.val (.ref a), .val (.int p), .val (.double d), .second] [(.double d)])) _
    exact retOut X0 hx Bd.returns rfl (Or.inr (Or.inr (Or.inl ⟨rfl, rfl, _, rfl⟩))) (Jvm.hb hby own_d5_1) hr
  · show Q_rm_kept Z a p d h0 n0 _ s₁.heap _
    rw [e0]
    exact ⟨rfl, N0, rfl⟩
theorem own_d3_0 : decode prog_28_method_6_code 0 = .ok (.aload_n 0, 1) := by decide +kernel
theorem own_d3_1 : decode prog_28_method_6_code 1 = .ok (.aload_n 0, 1) := by decide +kernel
theorem own_d3_2 : decode prog_28_method_6_code 2 = .ok (.getfield 23, 3) := by decide +kernel
theorem own_d3_5 : decode prog_28_method_6_code 5 = .ok (.iload_n 2, 1) := by decide +kernel
theorem own_d3_6 : decode prog_28_method_6_code 6 = .ok (.invokestatic 31, 3) := by decide +kernel
theorem own_pd0 : parseMethodDescriptor "(II)I" = some ⟨[.int, .int], some .int⟩ := by decide +kernel
theorem own_d3_9 : decode prog_28_method_6_code 9 = .ok (.putfield 23, 3) := by decide +kernel
theorem own_d3_12 : decode prog_28_method_6_code 12 = .ok (.aload_n 0, 1) := by decide +kernel
theorem own_d3_13 : decode prog_28_method_6_code 13 = .ok (.getfield 7, 3) := by decide +kernel
theorem own_d3_16 : decode prog_28_method_6_code 16 = .ok (.iload_n 1, 1) := by decide +kernel
theorem own_d3_17 : decode prog_28_method_6_code 17 = .ok (.aload_n 0, 1) := by decide +kernel
theorem own_d3_18 : decode prog_28_method_6_code 18 = .ok (.iload_n 1, 1) := by decide +kernel
theorem own_d3_19 : decode prog_28_method_6_code 19 = .ok (.aload_n 0, 1) := by decide +kernel
theorem own_d3_20 : decode prog_28_method_6_code 20 = .ok (.getfield 16, 3) := by decide +kernel
theorem own_d3_23 : decode prog_28_method_6_code 23 = .ok (.iload_n 1, 1) := by decide +kernel
theorem own_d3_24 : decode prog_28_method_6_code 24 = .ok (.daload, 1) := by decide +kernel
theorem own_d3_25 : decode prog_28_method_6_code 25 = .ok (.invokevirtual 37, 3) := by decide +kernel
theorem own_pd1 : parseMethodDescriptor "(ID)D" = some ⟨[.int, .double], some .double⟩ := by decide +kernel
theorem own_d3_28 : decode prog_28_method_6_code 28 = .ok (.dastore, 1) := by decide +kernel
theorem own_d3_29 : decode prog_28_method_6_code 29 = .ok (.aload_n 0, 1) := by decide +kernel
theorem own_d3_30 : decode prog_28_method_6_code 30 = .ok (.getfield 16, 3) := by decide +kernel
theorem own_d3_33 : decode prog_28_method_6_code 33 = .ok (.iload_n 1, 1) := by decide +kernel
theorem own_d3_34 : decode prog_28_method_6_code 34 = .ok (.dconst 0, 1) := by decide +kernel
theorem own_d3_35 : decode prog_28_method_6_code 35 = .ok (.dastore, 1) := by decide +kernel
theorem own_d3_36 : decode prog_28_method_6_code 36 = .ok (.aload_n 0, 1) := by decide +kernel
theorem own_d3_37 : decode prog_28_method_6_code 37 = .ok (.getfield 7, 3) := by decide +kernel
theorem own_d3_40 : decode prog_28_method_6_code 40 = .ok (.iload_n 1, 1) := by decide +kernel
theorem own_d3_41 : decode prog_28_method_6_code 41 = .ok (.daload, 1) := by decide +kernel
theorem own_d3_42 : decode prog_28_method_6_code 42 = .ok (.dconst 0, 1) := by decide +kernel
theorem own_d3_43 : decode prog_28_method_6_code 43 = .ok (.dcmp .l, 1) := by decide +kernel
theorem own_d3_44 : decode prog_28_method_6_code 44 = .ok (.ifCond .le 7, 3) := by decide +kernel
theorem own_d3_51 : decode prog_28_method_6_code 51 = .ok (.iconst 0, 1) := by decide +kernel
theorem own_d3_52 : decode prog_28_method_6_code 52 = .ok (.ireturn, 1) := by decide +kernel
theorem own_ef_rm_arr (mM : MethodId) (x0 : Addr) (x1 : Int32) (x2 : Int32) : entryFrame mM #[(.ref x0), (.int x1), (.int x2)] 3 = mkF mM 0 #[.val (.ref x0), .val (.int x1), .val (.int x2)] [] := by first | (simp [entryFrame, mkF, argsToLocals, Value.category]; done) | rfl
def Q_rm_arr (Z : State) (a : Addr) (p1 : Int32) (p2 : Int32) (m : Addr) (r : Addr) (ms : Int32) (q : Int64) (h0 : Heap) (n0 : Nat) (vV : Option Value) (hH : Heap) (lA : List Loc) : Prop := ∃ mn : Int32, vV = some (.int (0 : Int32)) ∧ Fr n0 lA ∧ (Keep h0 hH [a, m, r]) ∧ (Exa Z hH a "com/example/chains_to_rank/chainstorank/graph/DoubleArithmetic") ∧ (Fld Z hH a "com/example/chains_to_rank/chainstorank/graph/DoubleArithmetic" "mass" "[D" (.ref m)) ∧ (Fld Z hH a "com/example/chains_to_rank/chainstorank/graph/DoubleArithmetic" "arriving" "[D" (.ref r)) ∧ (Fld Z hH a "com/example/chains_to_rank/chainstorank/graph/DoubleArithmetic" "mostShares" "I" (.int mn)) ∧ (Fld Z hH a "com/example/chains_to_rank/chainstorank/graph/DoubleArithmetic" "roundings" "J" (.long q)) ∧ (own_TD Z hH m (4 : Int32) (fun _ => (0 : UInt64))) ∧ (own_TD Z hH r (4 : Int32) (fun _ => (0 : UInt64)))
set_option maxRecDepth 65536 in
set_option maxHeartbeats 40000000 in
theorem rm_arr (lL : Launch) (Z : State) (a0 : Array Value) (hw : ∀ d ∈ tables_1, d.before a0 Z = true) (ws : List Jvm.Cond) (a : Addr) (p1 : Int32) (p2 : Int32) (m : Addr) (r : Addr) (ms : Int32) (q : Int64) (h0 : Heap) (n0 : Nat) (Z0 : n0 ≤ h0.size) (Ea : Exa Z h0 a "com/example/chains_to_rank/chainstorank/graph/DoubleArithmetic") (Fm : Fld Z h0 a "com/example/chains_to_rank/chainstorank/graph/DoubleArithmetic" "mass" "[D" (.ref m)) (Fz : Fld Z h0 a "com/example/chains_to_rank/chainstorank/graph/DoubleArithmetic" "arriving" "[D" (.ref r)) (Fs : Fld Z h0 a "com/example/chains_to_rank/chainstorank/graph/DoubleArithmetic" "mostShares" "I" (.int ms)) (Fq : Fld Z h0 a "com/example/chains_to_rank/chainstorank/graph/DoubleArithmetic" "roundings" "J" (.long q)) (T1 : own_TD Z h0 m (4 : Int32) (fun _ => (0 : UInt64))) (T3 : own_TD Z h0 r (4 : Int32) (fun _ => (0 : UInt64))) (ga : n0 ≤ a) (gm : n0 ≤ m) (gr : n0 ≤ r) (nmr : m ≠ r) (nma : m ≠ a) (nra : r ≠ a) (hi : ¬ p1 < 0 ∧ p1 < (4 : Int32)) :
    MetFree lL (⟨"com/example/chains_to_rank/chainstorank/graph/DoubleArithmetic", "arrive", "(II)Z"⟩ : MethodName) (head1 (Jvm.Cond.code (⟨"com/example/chains_to_rank/chainstorank/graph/DoubleArithmetic", "arrive", "(II)Z"⟩ : MethodName) prog_28_method_6_code 3 (some .boolean) :: ws) ({ frames := 1, cells := 0, slots := 0, locals := 17 } : Room)) (fun aA uU => aA = #[(.ref a), (.int p1), (.int p2)] ∧ Z.Warmed39 uU.vm ∧ uU.heap = h0) (fun _ _ _ _ _ => True) (fun _ uU oO uU' => ∃ vV lA, oO = .returned vV ∧ Q_rm_arr Z a p1 p2 m r ms q h0 n0 vV uU'.heap lA ∧ FrameEnd uU oO uU' lA ({ frames := 1, cells := 0, slots := 0, locals := 17 } : Room).cells ({ frames := 1, cells := 0, slots := 0, locals := 17 } : Room).slots) := by
  refine MetFree.of_bodySF (plainFor_of_name own_pn_com_example_chains_to_rank_chainstorank_graph_DoubleArithmetic) hisR ?_
  intro pP eE sS mM args below meth cC s₁ Bd hml0 hP hK
  obtain ⟨rfl, hZ, hh⟩ := hP
  have hx := Bd.exec
  have hby := Bd.bytes
  have hml : cC.maxLocals = 3 := hml0
  have hown : sS.vm.findClass "com/example/chains_to_rank/chainstorank/graph/DoubleArithmetic" = some mM.cls := findClass_of_methodNamed Bd.named
  have hnm := (name_of_methodNamed Bd.named Bd.method).1
  have X0 : Stand pP lL eE ({ frames := 1, cells := 0, slots := 0, locals := 17 } : Room) sS mM #[(.ref a), (.int p1), (.int p2)] below meth cC s₁ [] 0 0 := Stand.of_body Bd
  have e0 : s₁.heap = h0 := by rw [← hh, Bd.state]; rfl
  have N0 := Fr.nil n0
  have K0 := Keep.refl h0 [a, m, r]
  show own_Fin pP eE below (fun tT oO => ∃ vV lA, oO = .returned vV ∧ Q_rm_arr Z a p1 p2 m r ms q h0 n0 vV tT.heap lA ∧ FrameEnd sS oO tT lA ({ frames := 1, cells := 0, slots := 0, locals := 17 } : Room).cells ({ frames := 1, cells := 0, slots := 0, locals := 17 } : Room).slots) (s₁.setTop (entryFrame mM #[(.ref a), (.int p1), (.int p2)] 3))
  refine own_fin (b := s₁.setTop (mkF mM 0 #[.val (.ref a), .val (.int p1), .val (.int p2)] [])) (fun tT kK => castTop (own_ef_rm_arr mM a p1 p2) kK) ?_
  refine own_fin (b := s₁.setTop (mkF mM 2 #[.val (.ref a), .val (.int p1), .val (.int p2)] [(.ref a), (.ref a)])) (fun tT kK => ?_) ?_
  · show Steps pP.tables eE below (s₁.setTop (mkF mM 0 #[.val (.ref a), .val (.int p1), .val (.int p2)] [])) tT
    refine XS.aloadN X0.here hx rfl (Jvm.hb hby own_d3_0) rfl rfl ?_
    show Steps pP.tables eE below (s₁.setTop (mkF mM 1 #[.val (.ref a), .val (.int p1), .val (.int p2)] [(.ref a)])) tT
    refine XS.aloadN X0.here hx rfl (Jvm.hb hby own_d3_1) rfl rfl ?_
    show Steps pP.tables eE below (s₁.setTop (mkF mM 2 #[.val (.ref a), .val (.int p1), .val (.int p2)] [(.ref a), (.ref a)])) tT
    exact kK
  obtain ⟨T1_, X1_, e1_, st1_⟩ := getF X0 hx hZ hown (host := "") (Or.inl (hw _ (List.mem_of_getElem? (i := 23) rfl))) Via.refl e0 Fs (g := (mkF mM 2 #[.val (.ref a), .val (.int p1), .val (.int p2)] [(.ref a), (.ref a)])) rfl rfl (Jvm.hb hby own_d3_2)
  refine own_fin st1_ ?_
  show own_Fin pP eE below _ (T1_.setTop (mkF mM 5 #[.val (.ref a), .val (.int p1), .val (.int p2)] [(.int ms), (.ref a)]))
  refine own_fin (b := T1_.setTop (mkF mM 6 #[.val (.ref a), .val (.int p1), .val (.int p2)] [(.int p2), (.int ms), (.ref a)])) (fun tT kK => ?_) ?_
  · show Steps pP.tables eE below (T1_.setTop (mkF mM 5 #[.val (.ref a), .val (.int p1), .val (.int p2)] [(.int ms), (.ref a)])) tT
    refine XS.iloadN X1_.here hx rfl (Jvm.hb hby own_d3_5) rfl ?_
    show Steps pP.tables eE below (T1_.setTop (mkF mM 6 #[.val (.ref a), .val (.int p1), .val (.int p2)] [(.int p2), (.int ms), (.ref a)])) tT
    exact kK
  obtain ⟨_, _, ⟨T2_, L2_, k2_, n2_⟩, -, X2_, ⟨Lc2_, hQ2_, l2_, y2_, z2_⟩, st2_⟩ := Jvm.LawKit.callS X1_ hx (y := (⟨"java/lang/Math", "max", "(II)I"⟩ : MethodName)) hown (mvT hZ (hw _ (List.mem_of_getElem? (i := 25) rfl))) (mvT hZ (hw _ (List.mem_of_getElem? (i := 26) rfl))) (mvT hZ (hw _ (List.mem_of_getElem? (i := 27) rfl))) (mvT hZ (hw _ (List.mem_of_getElem? (i := 28) rfl))) (by decide) (backOf (W := 1) (rm_max lL Z a0 hw [] ms p2 h0 n0 (Nat.le_trans Z0 K0.1) ) hZ (hw _ (List.mem_of_getElem? (i := 28) rfl)) (hw _ (List.mem_of_getElem? (i := 27) rfl)) (by decide) (by decide)) (g := (mkF mM 6 #[.val (.ref a), .val (.int p1), .val (.int p2)] [(.int p2), (.int ms), (.ref a)])) rfl (by rw [hml]; rfl) (argsL := [(.int ms), (.int p2)]) (rest := [(.ref a)]) (lenOf own_pd0 rfl) rfl (by show 2 * 0 + _ ≤ _; exact Nat.le_of_eq rfl) (Jvm.hb hby own_d3_6) (fun _ _ => ⟨rfl, e1_, (by decide : 0 + 0 ≤ _), (by decide : 0 + 0 ≤ _)⟩)
  dsimp only [Pt.U, Pt.locs, Pt.cells, Pt.slots] at X2_ l2_ y2_ z2_ st2_ hQ2_
  subst l2_ y2_ z2_
  obtain ⟨rfl, N2_q, p2__0⟩ := hQ2_
  have N2_ := Fr.app N0 N2_q
  refine own_fin (fun tT kK => st2_ tT kK) ?_
  show own_Fin pP eE below _ (T2_.setTop (mkF mM 9 #[.val (.ref a), .val (.int p1), .val (.int p2)] [(.int (if ms < p2 then p2 else ms)), (.ref a)]))
  obtain ⟨T3_, h3_, X3_, e3_, W3_, st3_⟩ := putF X2_ hx hZ hown (host := "") (Or.inl (hw _ (List.mem_of_getElem? (i := 23) rfl))) Via.refl p2__0 Fs Ea (Or.inl (hw _ (List.mem_of_getElem? (i := 24) rfl))) (hw _ (List.mem_of_getElem? (i := 3) rfl)) (ty := .int) (by decide) rfl rfl (g := (mkF mM 9 #[.val (.ref a), .val (.int p1), .val (.int p2)] [(.int (if ms < p2 then p2 else ms)), (.ref a)])) rfl rfl (Jvm.hb hby own_d3_9)
  have Fw3_ := Fs.same W3_
  have fc4_ := Ea.wr W3_
  have fc5_ := Fm.other W3_ (Or.inr (slot_ne (Or.inr (hw _ (List.mem_of_getElem? (i := 13) rfl))) (Or.inl (hw _ (List.mem_of_getElem? (i := 24) rfl))) (by decide) (t := (.array .double)) (t' := .int) (by decide) (by decide)))
  have fc6_ := Fz.other W3_ (Or.inr (slot_ne (Or.inr (hw _ (List.mem_of_getElem? (i := 17) rfl))) (Or.inl (hw _ (List.mem_of_getElem? (i := 24) rfl))) (by decide) (t := (.array .double)) (t' := .int) (by decide) (by decide)))
  have fc7_ := Fq.other W3_ (Or.inr (slot_ne (Or.inl (hw _ (List.mem_of_getElem? (i := 40) rfl))) (Or.inl (hw _ (List.mem_of_getElem? (i := 24) rfl))) (by decide) (t := .long) (t' := .int) (by decide) (by decide)))
  have fc8_ := T1.other W3_ nma
  have fc9_ := T3.other W3_ nra
  have K3_ := K0.wr W3_ (Or.inl (List.mem_of_getElem? (i := 0) rfl))
  have N3_ := Fr.snoc X3_ N2_ ga
  refine own_fin st3_ ?_
  show own_Fin pP eE below _ (T3_.setTop (mkF mM 12 #[.val (.ref a), .val (.int p1), .val (.int p2)] []))
  refine own_fin (b := T3_.setTop (mkF mM 13 #[.val (.ref a), .val (.int p1), .val (.int p2)] [(.ref a)])) (fun tT kK => ?_) ?_
  · show Steps pP.tables eE below (T3_.setTop (mkF mM 12 #[.val (.ref a), .val (.int p1), .val (.int p2)] [])) tT
    refine XS.aloadN X3_.here hx rfl (Jvm.hb hby own_d3_12) rfl rfl ?_
    show Steps pP.tables eE below (T3_.setTop (mkF mM 13 #[.val (.ref a), .val (.int p1), .val (.int p2)] [(.ref a)])) tT
    exact kK
  obtain ⟨T10_, X10_, e10_, st10_⟩ := getF X3_ hx hZ hown (host := "") (Or.inl (hw _ (List.mem_of_getElem? (i := 12) rfl))) Via.refl e3_ fc5_ (g := (mkF mM 13 #[.val (.ref a), .val (.int p1), .val (.int p2)] [(.ref a)])) rfl rfl (Jvm.hb hby own_d3_13)
  refine own_fin st10_ ?_
  show own_Fin pP eE below _ (T10_.setTop (mkF mM 16 #[.val (.ref a), .val (.int p1), .val (.int p2)] [(.ref m)]))
  refine own_fin (b := T10_.setTop (mkF mM 20 #[.val (.ref a), .val (.int p1), .val (.int p2)] [(.ref a), (.int p1), (.ref a), (.int p1), (.ref m)])) (fun tT kK => ?_) ?_
  · show Steps pP.tables eE below (T10_.setTop (mkF mM 16 #[.val (.ref a), .val (.int p1), .val (.int p2)] [(.ref m)])) tT
    refine XS.iloadN X10_.here hx rfl (Jvm.hb hby own_d3_16) rfl ?_
    show Steps pP.tables eE below (T10_.setTop (mkF mM 17 #[.val (.ref a), .val (.int p1), .val (.int p2)] [(.int p1), (.ref m)])) tT
    refine XS.aloadN X10_.here hx rfl (Jvm.hb hby own_d3_17) rfl rfl ?_
    show Steps pP.tables eE below (T10_.setTop (mkF mM 18 #[.val (.ref a), .val (.int p1), .val (.int p2)] [(.ref a), (.int p1), (.ref m)])) tT
    refine XS.iloadN X10_.here hx rfl (Jvm.hb hby own_d3_18) rfl ?_
    show Steps pP.tables eE below (T10_.setTop (mkF mM 19 #[.val (.ref a), .val (.int p1), .val (.int p2)] [(.int p1), (.ref a), (.int p1), (.ref m)])) tT
    refine XS.aloadN X10_.here hx rfl (Jvm.hb hby own_d3_19) rfl rfl ?_
    show Steps pP.tables eE below (T10_.setTop (mkF mM 20 #[.val (.ref a), .val (.int p1), .val (.int p2)] [(.ref a), (.int p1), (.ref a), (.int p1), (.ref m)])) tT
    exact kK
  obtain ⟨T11_, X11_, e11_, st11_⟩ := getF X10_ hx hZ hown (host := "") (Or.inl (hw _ (List.mem_of_getElem? (i := 16) rfl))) Via.refl e10_ fc6_ (g := (mkF mM 20 #[.val (.ref a), .val (.int p1), .val (.int p2)] [(.ref a), (.int p1), (.ref a), (.int p1), (.ref m)])) rfl rfl (Jvm.hb hby own_d3_20)
  refine own_fin st11_ ?_
  show own_Fin pP eE below _ (T11_.setTop (mkF mM 23 #[.val (.ref a), .val (.int p1), .val (.int p2)] [(.ref r), (.int p1), (.ref a), (.int p1), (.ref m)]))
  refine own_fin (b := T11_.setTop (mkF mM 24 #[.val (.ref a), .val (.int p1), .val (.int p2)] [(.int p1), (.ref r), (.int p1), (.ref a), (.int p1), (.ref m)])) (fun tT kK => ?_) ?_
  · show Steps pP.tables eE below (T11_.setTop (mkF mM 23 #[.val (.ref a), .val (.int p1), .val (.int p2)] [(.ref r), (.int p1), (.ref a), (.int p1), (.ref m)])) tT
    refine XS.iloadN X11_.here hx rfl (Jvm.hb hby own_d3_23) rfl ?_
    show Steps pP.tables eE below (T11_.setTop (mkF mM 24 #[.val (.ref a), .val (.int p1), .val (.int p2)] [(.int p1), (.ref r), (.int p1), (.ref a), (.int p1), (.ref m)])) tT
    exact kK
  obtain ⟨cl12_, Ar12_, Sz12_, Nn12_, Hh12_⟩ := id fc9_
  have hin12_ : ¬ (p1 < 0 ∨ cl12_.slots.size ≤ (p1).toNatClampNeg) := inb_of Sz12_ hi
  have hat12_ : cl12_.slots[(p1).toNatClampNeg]? = some (.double ((fun _ => (0 : UInt64)) p1)) := Hh12_ _ hin12_
  refine own_fin (b := T11_.setTop (mkF mM 25 #[.val (.ref a), .val (.int p1), .val (.int p2)] [(.double ((fun _ => (0 : UInt64)) p1)), (.int p1), (.ref a), (.int p1), (.ref m)])) (fun tT kK => ?_) ?_
  · show Steps pP.tables eE below (T11_.setTop (mkF mM 24 #[.val (.ref a), .val (.int p1), .val (.int p2)] [(.int p1), (.ref r), (.int p1), (.ref a), (.int p1), (.ref m)])) tT
    refine X11_.daload hx (j := p1) (v := (.double ((fun _ => (0 : UInt64)) p1))) (own_rw e11_ Ar12_.1) (State.isArrayOf_alike hZ.alike Ar12_.2.1) Ar12_.2.2 hin12_ hat12_ (g := (mkF mM 24 #[.val (.ref a), .val (.int p1), .val (.int p2)] [(.int p1), (.ref r), (.int p1), (.ref a), (.int p1), (.ref m)])) rfl rfl (Jvm.hb hby own_d3_24) _ ?_
    show Steps pP.tables eE below (T11_.setTop (mkF mM 25 #[.val (.ref a), .val (.int p1), .val (.int p2)] [(.double ((fun _ => (0 : UInt64)) p1)), (.int p1), (.ref a), (.int p1), (.ref m)])) tT
    exact kK
  obtain ⟨cq13_, kq13_, q13_a, q13_b, q13_c⟩ := isOf hZ e11_ fc4_
  obtain ⟨_, _, ⟨T13_, L13_, k13_, n13_⟩, -, X13_, ⟨Lc13_, hQ13_, l13_, y13_, z13_⟩, st13_⟩ := X11_.virtualBack hx (y := (⟨"com/example/chains_to_rank/chainstorank/graph/DoubleArithmetic", "kept", "(ID)D"⟩ : MethodName)) (z := (⟨"com/example/chains_to_rank/chainstorank/graph/DoubleArithmetic", "kept", "(ID)D"⟩ : MethodName)) hown (mvT hZ (hw _ (List.mem_of_getElem? (i := 29) rfl))) (mvT hZ (hw _ (List.mem_of_getElem? (i := 30) rfl))) (notFace_of_selects (args := #[]) (mvT hZ (hw _ (List.mem_of_getElem? (i := 32) rfl)))) (mvT hZ (hw _ (List.mem_of_getElem? (i := 32) rfl))) (mvT hZ (hw _ (List.mem_of_getElem? (i := 31) rfl))) (by decide) (backOf (W := 2) (rm_kept lL Z a0 hw [] a p1 ((fun _ => (0 : UInt64)) p1) h3_ n0 (Nat.le_trans Z0 K3_.1) ) hZ (hw _ (List.mem_of_getElem? (i := 33) rfl)) (hw _ (List.mem_of_getElem? (i := 4) rfl)) (by decide) (by decide)) q13_a q13_c (g := (mkF mM 25 #[.val (.ref a), .val (.int p1), .val (.int p2)] [(.double ((fun _ => (0 : UInt64)) p1)), (.int p1), (.ref a), (.int p1), (.ref m)])) rfl (by rw [hml]; rfl) (Steps.refl _) (argsL := [(.int p1), (.double ((fun _ => (0 : UInt64)) p1))]) (rest := [(.int p1), (.ref m)]) (lenOf own_pd1 rfl) rfl (by show 2 * 0 + _ ≤ _; exact Nat.le_of_eq rfl) (Jvm.hb hby own_d3_25) (fun _ _ => ⟨rfl, e11_, (by decide : 0 + 0 ≤ _), (by decide : 0 + 0 ≤ _)⟩)
  dsimp only [Pt.U, Pt.locs, Pt.cells, Pt.slots] at X13_ l13_ y13_ z13_ st13_ hQ13_
  subst l13_ y13_ z13_
  obtain ⟨rfl, N13_q, p13__0⟩ := hQ13_
  have N13_ := Fr.app N3_ N13_q
  refine own_fin (fun tT kK => st13_.trans kK) ?_
  show own_Fin pP eE below _ (T13_.setTop (mkF mM 28 #[.val (.ref a), .val (.int p1), .val (.int p2)] [(.double ((fun _ => (0 : UInt64)) p1)), (.int p1), (.ref m)]))
  obtain ⟨cl14_, Ar14_, Sz14_, Nn14_, Hh14_⟩ := id fc8_
  have hin14_ : ¬ (p1 < 0 ∨ cl14_.slots.size ≤ (p1).toNatClampNeg) := inb_of Sz14_ hi
  obtain ⟨T14_, h14_, X14_, e14_, W14_, st14_⟩ := stD X13_ hx hZ p13__0 Ar14_ (j := p1) hin14_ (g := (mkF mM 28 #[.val (.ref a), .val (.int p1), .val (.int p2)] [(.double ((fun _ => (0 : UInt64)) p1)), (.int p1), (.ref m)])) rfl rfl (Jvm.hb hby own_d3_28)
  have U14_ : own_TD Z h14_ m (4 : Int32) (own_upD (fun _ => (0 : UInt64)) p1 ((fun _ => (0 : UInt64)) p1)) := own_TD.set ⟨cl14_, Ar14_, Sz14_, Nn14_, Hh14_⟩ W14_ hi
  have fc15_ := fc4_.wr W14_
  have fc16_ := fc5_.other W14_ (Or.inl (Ne.symm nma))
  have fc17_ := fc6_.other W14_ (Or.inl (Ne.symm nma))
  have fc18_ := Fw3_.other W14_ (Or.inl (Ne.symm nma))
  have fc19_ := fc7_.other W14_ (Or.inl (Ne.symm nma))
  have fc20_ := fc9_.other W14_ (Ne.symm nmr)
  have K14_ := K3_.wr W14_ (Or.inl (List.mem_of_getElem? (i := 1) rfl))
  have N14_ := Fr.snoc X14_ N13_ gm
  refine own_fin st14_ ?_
  show own_Fin pP eE below _ (T14_.setTop (mkF mM 29 #[.val (.ref a), .val (.int p1), .val (.int p2)] []))
  have Tz1 : own_TD Z h14_ m (4 : Int32) (fun _ => (0 : UInt64)) := U14_.congr (own_upz _ _)
  refine own_fin (b := T14_.setTop (mkF mM 30 #[.val (.ref a), .val (.int p1), .val (.int p2)] [(.ref a)])) (fun tT kK => ?_) ?_
  · show Steps pP.tables eE below (T14_.setTop (mkF mM 29 #[.val (.ref a), .val (.int p1), .val (.int p2)] [])) tT
    refine XS.aloadN X14_.here hx rfl (Jvm.hb hby own_d3_29) rfl rfl ?_
    show Steps pP.tables eE below (T14_.setTop (mkF mM 30 #[.val (.ref a), .val (.int p1), .val (.int p2)] [(.ref a)])) tT
    exact kK
  obtain ⟨T21_, X21_, e21_, st21_⟩ := getF X14_ hx hZ hown (host := "") (Or.inl (hw _ (List.mem_of_getElem? (i := 16) rfl))) Via.refl e14_ fc17_ (g := (mkF mM 30 #[.val (.ref a), .val (.int p1), .val (.int p2)] [(.ref a)])) rfl rfl (Jvm.hb hby own_d3_30)
  refine own_fin st21_ ?_
  show own_Fin pP eE below _ (T21_.setTop (mkF mM 33 #[.val (.ref a), .val (.int p1), .val (.int p2)] [(.ref r)]))
  refine own_fin (b := T21_.setTop (mkF mM 35 #[.val (.ref a), .val (.int p1), .val (.int p2)] [(.double (0 : UInt64)), (.int p1), (.ref r)])) (fun tT kK => ?_) ?_
  · show Steps pP.tables eE below (T21_.setTop (mkF mM 33 #[.val (.ref a), .val (.int p1), .val (.int p2)] [(.ref r)])) tT
    refine XS.iloadN X21_.here hx rfl (Jvm.hb hby own_d3_33) rfl ?_
    show Steps pP.tables eE below (T21_.setTop (mkF mM 34 #[.val (.ref a), .val (.int p1), .val (.int p2)] [(.int p1), (.ref r)])) tT
    refine XS.dconst0 X21_.here hx rfl (Jvm.hb hby own_d3_34) (v := (0 : UInt64)) rfl ?_
    show Steps pP.tables eE below (T21_.setTop (mkF mM 35 #[.val (.ref a), .val (.int p1), .val (.int p2)] [(.double (0 : UInt64)), (.int p1), (.ref r)])) tT
    exact kK
  obtain ⟨cl22_, Ar22_, Sz22_, Nn22_, Hh22_⟩ := id fc20_
  have hin22_ : ¬ (p1 < 0 ∨ cl22_.slots.size ≤ (p1).toNatClampNeg) := inb_of Sz22_ hi
  obtain ⟨T22_, h22_, X22_, e22_, W22_, st22_⟩ := stD X21_ hx hZ e21_ Ar22_ (j := p1) hin22_ (g := (mkF mM 35 #[.val (.ref a), .val (.int p1), .val (.int p2)] [(.double (0 : UInt64)), (.int p1), (.ref r)])) rfl rfl (Jvm.hb hby own_d3_35)
  have U22_ : own_TD Z h22_ r (4 : Int32) (own_upD (fun _ => (0 : UInt64)) p1 (0 : UInt64)) := own_TD.set ⟨cl22_, Ar22_, Sz22_, Nn22_, Hh22_⟩ W22_ hi
  have fc23_ := fc15_.wr W22_
  have fc24_ := fc16_.other W22_ (Or.inl (Ne.symm nra))
  have fc25_ := fc17_.other W22_ (Or.inl (Ne.symm nra))
  have fc26_ := fc18_.other W22_ (Or.inl (Ne.symm nra))
  have fc27_ := fc19_.other W22_ (Or.inl (Ne.symm nra))
  have fc28_ := Tz1.other W22_ nmr
  have K22_ := K14_.wr W22_ (Or.inl (List.mem_of_getElem? (i := 2) rfl))
  have N22_ := Fr.snoc X22_ N14_ gr
  refine own_fin st22_ ?_
  show own_Fin pP eE below _ (T22_.setTop (mkF mM 36 #[.val (.ref a), .val (.int p1), .val (.int p2)] []))
  have Tz3 : own_TD Z h22_ r (4 : Int32) (fun _ => (0 : UInt64)) := U22_.congr (own_upz _ _)
  refine own_fin (b := T22_.setTop (mkF mM 37 #[.val (.ref a), .val (.int p1), .val (.int p2)] [(.ref a)])) (fun tT kK => ?_) ?_
  · show Steps pP.tables eE below (T22_.setTop (mkF mM 36 #[.val (.ref a), .val (.int p1), .val (.int p2)] [])) tT
    refine XS.aloadN X22_.here hx rfl (Jvm.hb hby own_d3_36) rfl rfl ?_
    show Steps pP.tables eE below (T22_.setTop (mkF mM 37 #[.val (.ref a), .val (.int p1), .val (.int p2)] [(.ref a)])) tT
    exact kK
  obtain ⟨T29_, X29_, e29_, st29_⟩ := getF X22_ hx hZ hown (host := "") (Or.inl (hw _ (List.mem_of_getElem? (i := 12) rfl))) Via.refl e22_ fc24_ (g := (mkF mM 37 #[.val (.ref a), .val (.int p1), .val (.int p2)] [(.ref a)])) rfl rfl (Jvm.hb hby own_d3_37)
  refine own_fin st29_ ?_
  show own_Fin pP eE below _ (T29_.setTop (mkF mM 40 #[.val (.ref a), .val (.int p1), .val (.int p2)] [(.ref m)]))
  refine own_fin (b := T29_.setTop (mkF mM 41 #[.val (.ref a), .val (.int p1), .val (.int p2)] [(.int p1), (.ref m)])) (fun tT kK => ?_) ?_
  · show Steps pP.tables eE below (T29_.setTop (mkF mM 40 #[.val (.ref a), .val (.int p1), .val (.int p2)] [(.ref m)])) tT
    refine XS.iloadN X29_.here hx rfl (Jvm.hb hby own_d3_40) rfl ?_
    show Steps pP.tables eE below (T29_.setTop (mkF mM 41 #[.val (.ref a), .val (.int p1), .val (.int p2)] [(.int p1), (.ref m)])) tT
    exact kK
  obtain ⟨cl30_, Ar30_, Sz30_, Nn30_, Hh30_⟩ := id fc28_
  have hin30_ : ¬ (p1 < 0 ∨ cl30_.slots.size ≤ (p1).toNatClampNeg) := inb_of Sz30_ hi
  have hat30_ : cl30_.slots[(p1).toNatClampNeg]? = some (.double ((fun _ => (0 : UInt64)) p1)) := Hh30_ _ hin30_
  refine own_fin (b := T29_.setTop (mkF mM 52 #[.val (.ref a), .val (.int p1), .val (.int p2)] [(.int (0 : Int32))])) (fun tT kK => ?_) ?_
  · show Steps pP.tables eE below (T29_.setTop (mkF mM 41 #[.val (.ref a), .val (.int p1), .val (.int p2)] [(.int p1), (.ref m)])) tT
    refine X29_.daload hx (j := p1) (v := (.double ((fun _ => (0 : UInt64)) p1))) (own_rw e29_ Ar30_.1) (State.isArrayOf_alike hZ.alike Ar30_.2.1) Ar30_.2.2 hin30_ hat30_ (g := (mkF mM 41 #[.val (.ref a), .val (.int p1), .val (.int p2)] [(.int p1), (.ref m)])) rfl rfl (Jvm.hb hby own_d3_41) _ ?_
    show Steps pP.tables eE below (T29_.setTop (mkF mM 42 #[.val (.ref a), .val (.int p1), .val (.int p2)] [(.double ((fun _ => (0 : UInt64)) p1))])) tT
    refine XS.dconst0 X29_.here hx rfl (Jvm.hb hby own_d3_42) (v := (0 : UInt64)) rfl ?_
    show Steps pP.tables eE below (T29_.setTop (mkF mM 43 #[.val (.ref a), .val (.int p1), .val (.int p2)] [(.double (0 : UInt64)), (.double ((fun _ => (0 : UInt64)) p1))])) tT
    refine XS.dcmpS X29_.here hx rfl (Jvm.hb hby own_d3_43) rfl (v := (0 : Int32)) own_dz ?_
    show Steps pP.tables eE below (T29_.setTop (mkF mM 44 #[.val (.ref a), .val (.int p1), .val (.int p2)] [(.int (0 : Int32))])) tT
    refine XS.ifYes X29_.here hx rfl (pc0 := 44) (pc' := 51) rfl (Jvm.hb hby own_d3_44) rfl ((if0 _ _).trans (flt ((by decide) : ¬ ((0 : Int32) < (0 : Int32)))).2.2.2) (by decide) (by decide) ?_
    show Steps pP.tables eE below (T29_.setTop (mkF mM 51 #[.val (.ref a), .val (.int p1), .val (.int p2)] [])) tT
    refine XS.iconst X29_.here hx rfl (Jvm.hb hby own_d3_51) ?_
    show Steps pP.tables eE below (T29_.setTop (mkF mM 52 #[.val (.ref a), .val (.int p1), .val (.int p2)] [(.int (0 : Int32))])) tT
    exact kK
  obtain ⟨fs, hr, hrun, hended, hW, hsame⟩ := X29_.leave (v := some (.int (0 : Int32))) (fun h => by rw [Bd.returns] at h; cases h)
  refine ⟨_, _, ?_, hrun, hended, _, _, rfl, ?_, ⟨_, rfl⟩, hW, hsame.mono (by decide) (by decide)⟩
  · show Steps pP.tables eE below (T29_.setTop (mkF mM 52 #[.val (.ref a), .val (.int p1), .val (.int p2)] [(.int (0 : Int32))])) _
    exact retN X29_ hx (t := .boolean) Bd.returns (by simp) (Jvm.hb hby own_d3_52) hr
  · show Q_rm_arr Z a p1 p2 m r ms q h0 n0 _ T29_.heap _
    rw [e29_]
    exact ⟨(if ms < p2 then p2 else ms), rfl, N22_, K22_, fc23_, fc24_, fc25_, fc26_, fc27_, fc28_, Tz3⟩
theorem own_d6_0 : decode prog_28_method_3_code 0 = .ok (.aload_n 0, 1) := by decide +kernel
theorem own_d6_1 : decode prog_28_method_3_code 1 = .ok (.dup, 1) := by decide +kernel
theorem own_d6_2 : decode prog_28_method_3_code 2 = .ok (.getfield 19, 3) := by decide +kernel
theorem own_d6_5 : decode prog_28_method_3_code 5 = .ok (.aload_n 0, 1) := by decide +kernel
theorem own_d6_6 : decode prog_28_method_3_code 6 = .ok (.getfield 23, 3) := by decide +kernel
theorem own_d6_9 : decode prog_28_method_3_code 9 = .ok (.i2l, 1) := by decide +kernel
theorem own_d6_10 : decode prog_28_method_3_code 10 = .ok (.ladd, 1) := by decide +kernel
theorem own_d6_11 : decode prog_28_method_3_code 11 = .ok (.putfield 19, 3) := by decide +kernel
theorem own_d6_14 : decode prog_28_method_3_code 14 = .ok (.aload_n 0, 1) := by decide +kernel
theorem own_d6_15 : decode prog_28_method_3_code 15 = .ok (.iconst 0, 1) := by decide +kernel
theorem own_d6_16 : decode prog_28_method_3_code 16 = .ok (.putfield 23, 3) := by decide +kernel
theorem own_d6_19 : decode prog_28_method_3_code 19 = .ok (.iconst 0, 1) := by decide +kernel
theorem own_d6_20 : decode prog_28_method_3_code 20 = .ok (.istore_n 3, 1) := by decide +kernel
theorem own_d6_21 : decode prog_28_method_3_code 21 = .ok (.iload_n 3, 1) := by decide +kernel
theorem own_d6_22 : decode prog_28_method_3_code 22 = .ok (.aload_n 1, 1) := by decide +kernel
theorem own_d6_23 : decode prog_28_method_3_code 23 = .ok (.arraylength, 1) := by decide +kernel
theorem own_d6_24 : decode prog_28_method_3_code 24 = .ok (.if_icmp .ge 41, 3) := by decide +kernel
theorem own_d6_65 : decode prog_28_method_3_code 65 = .ok (.return_, 1) := by decide +kernel
theorem own_ef_rm_prep (mM : MethodId) (x0 : Addr) (x1 : Addr) (x2 : Addr) : entryFrame mM #[(.ref x0), (.ref x1), (.ref x2)] 4 = mkF mM 0 #[.val (.ref x0), .val (.ref x1), .val (.ref x2), .unset] [] := by first | (simp [entryFrame, mkF, argsToLocals, Value.category]; done) | rfl
def Q_rm_prep (Z : State) (a : Addr) (u : Addr) (v : Addr) (ku : ClassId) (ms : Int32) (q : Int64) (m : Addr) (r : Addr) (h0 : Heap) (n0 : Nat) (vV : Option Value) (hH : Heap) (lA : List Loc) : Prop := ∃ qn : Int64, vV = none ∧ Fr n0 lA ∧ (Keep h0 hH [a]) ∧ (Exa Z hH a "com/example/chains_to_rank/chainstorank/graph/DoubleArithmetic") ∧ (Fld Z hH a "com/example/chains_to_rank/chainstorank/graph/DoubleArithmetic" "mass" "[D" (.ref m)) ∧ (Fld Z hH a "com/example/chains_to_rank/chainstorank/graph/DoubleArithmetic" "arriving" "[D" (.ref r)) ∧ (Fld Z hH a "com/example/chains_to_rank/chainstorank/graph/DoubleArithmetic" "roundings" "J" (.long qn)) ∧ (Fld Z hH a "com/example/chains_to_rank/chainstorank/graph/DoubleArithmetic" "mostShares" "I" (.int (0 : Int32)))
set_option maxRecDepth 65536 in
set_option maxHeartbeats 40000000 in
theorem rm_prep (lL : Launch) (Z : State) (a0 : Array Value) (hw : ∀ d ∈ tables_1, d.before a0 Z = true) (ws : List Jvm.Cond) (a : Addr) (u : Addr) (v : Addr) (ku : ClassId) (ms : Int32) (q : Int64) (m : Addr) (r : Addr) (h0 : Heap) (n0 : Nat) (Z0 : n0 ≤ h0.size) (Ea : Exa Z h0 a "com/example/chains_to_rank/chainstorank/graph/DoubleArithmetic") (Fm : Fld Z h0 a "com/example/chains_to_rank/chainstorank/graph/DoubleArithmetic" "mass" "[D" (.ref m)) (Fz : Fld Z h0 a "com/example/chains_to_rank/chainstorank/graph/DoubleArithmetic" "arriving" "[D" (.ref r)) (Fq : Fld Z h0 a "com/example/chains_to_rank/chainstorank/graph/DoubleArithmetic" "roundings" "J" (.long q)) (Fs : Fld Z h0 a "com/example/chains_to_rank/chainstorank/graph/DoubleArithmetic" "mostShares" "I" (.int ms)) (Vu : Arv Z h0 u ku .int (0 : Int32) [] (.int (0 : Int32))) (ga : n0 ≤ a) (nua : u ≠ a) :
    MetFree lL (⟨"com/example/chains_to_rank/chainstorank/graph/DoubleArithmetic", "prepareStep", "([I[I)V"⟩ : MethodName) (head1 (Jvm.Cond.code (⟨"com/example/chains_to_rank/chainstorank/graph/DoubleArithmetic", "prepareStep", "([I[I)V"⟩ : MethodName) prog_28_method_3_code 4 none :: ws) ({ frames := 0, cells := 0, slots := 0, locals := 0 } : Room)) (fun aA uU => aA = #[(.ref a), (.ref u), (.ref v)] ∧ Z.Warmed39 uU.vm ∧ uU.heap = h0) (fun _ _ _ _ _ => True) (fun _ uU oO uU' => ∃ vV lA, oO = .returned vV ∧ Q_rm_prep Z a u v ku ms q m r h0 n0 vV uU'.heap lA ∧ FrameEnd uU oO uU' lA ({ frames := 0, cells := 0, slots := 0, locals := 0 } : Room).cells ({ frames := 0, cells := 0, slots := 0, locals := 0 } : Room).slots) := by
  refine MetFree.of_bodySF (plainFor_of_name own_pn_com_example_chains_to_rank_chainstorank_graph_DoubleArithmetic) hisR ?_
  intro pP eE sS mM args below meth cC s₁ Bd hml0 hP hK
  obtain ⟨rfl, hZ, hh⟩ := hP
  have hx := Bd.exec
  have hby := Bd.bytes
  have hml : cC.maxLocals = 4 := hml0
  have hown : sS.vm.findClass "com/example/chains_to_rank/chainstorank/graph/DoubleArithmetic" = some mM.cls := findClass_of_methodNamed Bd.named
  have hnm := (name_of_methodNamed Bd.named Bd.method).1
  have X0 : Stand pP lL eE ({ frames := 0, cells := 0, slots := 0, locals := 0 } : Room) sS mM #[(.ref a), (.ref u), (.ref v)] below meth cC s₁ [] 0 0 := Stand.of_body Bd
  have e0 : s₁.heap = h0 := by rw [← hh, Bd.state]; rfl
  have N0 := Fr.nil n0
  have K0 := Keep.refl h0 [a]
  show own_Fin pP eE below (fun tT oO => ∃ vV lA, oO = .returned vV ∧ Q_rm_prep Z a u v ku ms q m r h0 n0 vV tT.heap lA ∧ FrameEnd sS oO tT lA ({ frames := 0, cells := 0, slots := 0, locals := 0 } : Room).cells ({ frames := 0, cells := 0, slots := 0, locals := 0 } : Room).slots) (s₁.setTop (entryFrame mM #[(.ref a), (.ref u), (.ref v)] 4))
  refine own_fin (b := s₁.setTop (mkF mM 0 #[.val (.ref a), .val (.ref u), .val (.ref v), .unset] [])) (fun tT kK => castTop (own_ef_rm_prep mM a u v) kK) ?_
  refine own_fin (b := s₁.setTop (mkF mM 2 #[.val (.ref a), .val (.ref u), .val (.ref v), .unset] [(.ref a), (.ref a)])) (fun tT kK => ?_) ?_
  · show Steps pP.tables eE below (s₁.setTop (mkF mM 0 #[.val (.ref a), .val (.ref u), .val (.ref v), .unset] [])) tT
    refine XS.aloadN X0.here hx rfl (Jvm.hb hby own_d6_0) rfl rfl ?_
    show Steps pP.tables eE below (s₁.setTop (mkF mM 1 #[.val (.ref a), .val (.ref u), .val (.ref v), .unset] [(.ref a)])) tT
    refine XS.dup X0.here hx rfl (Jvm.hb hby own_d6_1) rfl rfl ?_
    show Steps pP.tables eE below (s₁.setTop (mkF mM 2 #[.val (.ref a), .val (.ref u), .val (.ref v), .unset] [(.ref a), (.ref a)])) tT
    exact kK
  obtain ⟨T1_, X1_, e1_, st1_⟩ := getF X0 hx hZ hown (host := "") (Or.inl (hw _ (List.mem_of_getElem? (i := 39) rfl))) Via.refl e0 Fq (g := (mkF mM 2 #[.val (.ref a), .val (.ref u), .val (.ref v), .unset] [(.ref a), (.ref a)])) rfl rfl (Jvm.hb hby own_d6_2)
  refine own_fin st1_ ?_
  show own_Fin pP eE below _ (T1_.setTop (mkF mM 5 #[.val (.ref a), .val (.ref u), .val (.ref v), .unset] [(.long q), (.ref a)]))
  refine own_fin (b := T1_.setTop (mkF mM 6 #[.val (.ref a), .val (.ref u), .val (.ref v), .unset] [(.ref a), (.long q), (.ref a)])) (fun tT kK => ?_) ?_
  · show Steps pP.tables eE below (T1_.setTop (mkF mM 5 #[.val (.ref a), .val (.ref u), .val (.ref v), .unset] [(.long q), (.ref a)])) tT
    refine XS.aloadN X1_.here hx rfl (Jvm.hb hby own_d6_5) rfl rfl ?_
    show Steps pP.tables eE below (T1_.setTop (mkF mM 6 #[.val (.ref a), .val (.ref u), .val (.ref v), .unset] [(.ref a), (.long q), (.ref a)])) tT
    exact kK
  obtain ⟨T2_, X2_, e2_, st2_⟩ := getF X1_ hx hZ hown (host := "") (Or.inl (hw _ (List.mem_of_getElem? (i := 23) rfl))) Via.refl e1_ Fs (g := (mkF mM 6 #[.val (.ref a), .val (.ref u), .val (.ref v), .unset] [(.ref a), (.long q), (.ref a)])) rfl rfl (Jvm.hb hby own_d6_6)
  refine own_fin st2_ ?_
  show own_Fin pP eE below _ (T2_.setTop (mkF mM 9 #[.val (.ref a), .val (.ref u), .val (.ref v), .unset] [(.int ms), (.long q), (.ref a)]))
  refine own_fin (b := T2_.setTop (mkF mM 11 #[.val (.ref a), .val (.ref u), .val (.ref v), .unset] [(.long (q + (ms.toInt64))), (.ref a)])) (fun tT kK => ?_) ?_
  · show Steps pP.tables eE below (T2_.setTop (mkF mM 9 #[.val (.ref a), .val (.ref u), .val (.ref v), .unset] [(.int ms), (.long q), (.ref a)])) tT
    refine XS.i2l X2_.here hx rfl (Jvm.hb hby own_d6_9) rfl ?_
    show Steps pP.tables eE below (T2_.setTop (mkF mM 10 #[.val (.ref a), .val (.ref u), .val (.ref v), .unset] [(.long (ms.toInt64)), (.long q), (.ref a)])) tT
    refine XS.ladd X2_.here hx rfl (Jvm.hb hby own_d6_10) rfl ?_
    show Steps pP.tables eE below (T2_.setTop (mkF mM 11 #[.val (.ref a), .val (.ref u), .val (.ref v), .unset] [(.long (q + (ms.toInt64))), (.ref a)])) tT
    exact kK
  obtain ⟨T3_, h3_, X3_, e3_, W3_, st3_⟩ := putF X2_ hx hZ hown (host := "") (Or.inl (hw _ (List.mem_of_getElem? (i := 39) rfl))) Via.refl e2_ Fq Ea (Or.inl (hw _ (List.mem_of_getElem? (i := 40) rfl))) (hw _ (List.mem_of_getElem? (i := 3) rfl)) (ty := .long) (by decide) rfl rfl (g := (mkF mM 11 #[.val (.ref a), .val (.ref u), .val (.ref v), .unset] [(.long (q + (ms.toInt64))), (.ref a)])) rfl rfl (Jvm.hb hby own_d6_11)
  have Fw3_ := Fq.same W3_
  have fc4_ := Ea.wr W3_
  have fc5_ := Fm.other W3_ (Or.inr (slot_ne (Or.inr (hw _ (List.mem_of_getElem? (i := 13) rfl))) (Or.inl (hw _ (List.mem_of_getElem? (i := 40) rfl))) (by decide) (t := (.array .double)) (t' := .long) (by decide) (by decide)))
  have fc6_ := Fz.other W3_ (Or.inr (slot_ne (Or.inr (hw _ (List.mem_of_getElem? (i := 17) rfl))) (Or.inl (hw _ (List.mem_of_getElem? (i := 40) rfl))) (by decide) (t := (.array .double)) (t' := .long) (by decide) (by decide)))
  have fc7_ := Fs.other W3_ (Or.inr (slot_ne (Or.inl (hw _ (List.mem_of_getElem? (i := 24) rfl))) (Or.inl (hw _ (List.mem_of_getElem? (i := 40) rfl))) (by decide) (t := .int) (t' := .long) (by decide) (by decide)))
  have fc8_ := Vu.other W3_ nua
  have K3_ := K0.wr W3_ (Or.inl (List.mem_of_getElem? (i := 0) rfl))
  have N3_ := Fr.snoc X3_ N0 ga
  refine own_fin st3_ ?_
  show own_Fin pP eE below _ (T3_.setTop (mkF mM 14 #[.val (.ref a), .val (.ref u), .val (.ref v), .unset] []))
  refine own_fin (b := T3_.setTop (mkF mM 16 #[.val (.ref a), .val (.ref u), .val (.ref v), .unset] [(.int (0 : Int32)), (.ref a)])) (fun tT kK => ?_) ?_
  · show Steps pP.tables eE below (T3_.setTop (mkF mM 14 #[.val (.ref a), .val (.ref u), .val (.ref v), .unset] [])) tT
    refine XS.aloadN X3_.here hx rfl (Jvm.hb hby own_d6_14) rfl rfl ?_
    show Steps pP.tables eE below (T3_.setTop (mkF mM 15 #[.val (.ref a), .val (.ref u), .val (.ref v), .unset] [(.ref a)])) tT
    refine XS.iconst X3_.here hx rfl (Jvm.hb hby own_d6_15) ?_
    show Steps pP.tables eE below (T3_.setTop (mkF mM 16 #[.val (.ref a), .val (.ref u), .val (.ref v), .unset] [(.int (0 : Int32)), (.ref a)])) tT
    exact kK
  obtain ⟨T9_, h9_, X9_, e9_, W9_, st9_⟩ := putF X3_ hx hZ hown (host := "") (Or.inl (hw _ (List.mem_of_getElem? (i := 23) rfl))) Via.refl e3_ fc7_ fc4_ (Or.inl (hw _ (List.mem_of_getElem? (i := 24) rfl))) (hw _ (List.mem_of_getElem? (i := 3) rfl)) (ty := .int) (by decide) rfl rfl (g := (mkF mM 16 #[.val (.ref a), .val (.ref u), .val (.ref v), .unset] [(.int (0 : Int32)), (.ref a)])) rfl rfl (Jvm.hb hby own_d6_16)
  have Fw9_ := fc7_.same W9_
  have fc10_ := fc4_.wr W9_
  have fc11_ := fc5_.other W9_ (Or.inr (slot_ne (Or.inr (hw _ (List.mem_of_getElem? (i := 13) rfl))) (Or.inl (hw _ (List.mem_of_getElem? (i := 24) rfl))) (by decide) (t := (.array .double)) (t' := .int) (by decide) (by decide)))
  have fc12_ := fc6_.other W9_ (Or.inr (slot_ne (Or.inr (hw _ (List.mem_of_getElem? (i := 17) rfl))) (Or.inl (hw _ (List.mem_of_getElem? (i := 24) rfl))) (by decide) (t := (.array .double)) (t' := .int) (by decide) (by decide)))
  have fc13_ := Fw3_.other W9_ (Or.inr (slot_ne (Or.inl (hw _ (List.mem_of_getElem? (i := 40) rfl))) (Or.inl (hw _ (List.mem_of_getElem? (i := 24) rfl))) (by decide) (t := .long) (t' := .int) (by decide) (by decide)))
  have fc14_ := fc8_.other W9_ nua
  have K9_ := K3_.wr W9_ (Or.inl (List.mem_of_getElem? (i := 0) rfl))
  have N9_ := Fr.snoc X9_ N3_ ga
  refine own_fin st9_ ?_
  show own_Fin pP eE below _ (T9_.setTop (mkF mM 19 #[.val (.ref a), .val (.ref u), .val (.ref v), .unset] []))
  refine own_fin (b := T9_.setTop (mkF mM 23 #[.val (.ref a), .val (.ref u), .val (.ref v), .val (.int (0 : Int32))] [(.ref u), (.int (0 : Int32))])) (fun tT kK => ?_) ?_
  · show Steps pP.tables eE below (T9_.setTop (mkF mM 19 #[.val (.ref a), .val (.ref u), .val (.ref v), .unset] [])) tT
    refine XS.iconst X9_.here hx rfl (Jvm.hb hby own_d6_19) ?_
    show Steps pP.tables eE below (T9_.setTop (mkF mM 20 #[.val (.ref a), .val (.ref u), .val (.ref v), .unset] [(.int (0 : Int32))])) tT
    refine XS.istoreN X9_.here hx rfl (Jvm.hb hby own_d6_20) rfl (l' := #[.val (.ref a), .val (.ref u), .val (.ref v), .val (.int (0 : Int32))]) rfl ?_
    show Steps pP.tables eE below (T9_.setTop (mkF mM 21 #[.val (.ref a), .val (.ref u), .val (.ref v), .val (.int (0 : Int32))] [])) tT
    refine XS.iloadN X9_.here hx rfl (Jvm.hb hby own_d6_21) rfl ?_
    show Steps pP.tables eE below (T9_.setTop (mkF mM 22 #[.val (.ref a), .val (.ref u), .val (.ref v), .val (.int (0 : Int32))] [(.int (0 : Int32))])) tT
    refine XS.aloadN X9_.here hx rfl (Jvm.hb hby own_d6_22) rfl rfl ?_
    show Steps pP.tables eE below (T9_.setTop (mkF mM 23 #[.val (.ref a), .val (.ref u), .val (.ref v), .val (.int (0 : Int32))] [(.ref u), (.int (0 : Int32))])) tT
    exact kK
  obtain ⟨cl15_, Ar15_, qk15_, Sz15_, Nn15_, Hh15_, Gg15_⟩ := id fc14_
  refine own_fin (b := T9_.setTop (mkF mM 65 #[.val (.ref a), .val (.ref u), .val (.ref v), .val (.int (0 : Int32))] [])) (fun tT kK => ?_) ?_
  · show Steps pP.tables eE below (T9_.setTop (mkF mM 23 #[.val (.ref a), .val (.ref u), .val (.ref v), .val (.int (0 : Int32))] [(.ref u), (.int (0 : Int32))])) tT
    refine X9_.arraylength hx (own_rw e9_ Ar15_.1) (State.isArrayOf_alike hZ.alike Ar15_.2.1) (g := (mkF mM 23 #[.val (.ref a), .val (.ref u), .val (.ref v), .val (.int (0 : Int32))] [(.ref u), (.int (0 : Int32))])) rfl rfl (Jvm.hb hby own_d6_23) _ ?_
    rw [len_of Sz15_ Nn15_]
    show Steps pP.tables eE below (T9_.setTop (mkF mM 24 #[.val (.ref a), .val (.ref u), .val (.ref v), .val (.int (0 : Int32))] [(.int (0 : Int32)), (.int (0 : Int32))])) tT
    refine XS.icmpYes X9_.here hx rfl (pc0 := 24) (pc' := 65) rfl (Jvm.hb hby own_d6_24) rfl (flt ((by decide) : ¬ ((0 : Int32) < (0 : Int32)))).2.1 (by decide) (by decide) ?_
    show Steps pP.tables eE below (T9_.setTop (mkF mM 65 #[.val (.ref a), .val (.ref u), .val (.ref v), .val (.int (0 : Int32))] [])) tT
    exact kK
  obtain ⟨fs, hr, hrun, hended, hW, hsame⟩ := X9_.leave (v := none) (fun _ => rfl)
  refine ⟨_, _, ?_, hrun, hended, _, _, rfl, ?_, ⟨_, rfl⟩, hW, hsame.mono (by decide) (by decide)⟩
  · show Steps pP.tables eE below (T9_.setTop (mkF mM 65 #[.val (.ref a), .val (.ref u), .val (.ref v), .val (.int (0 : Int32))] [])) _
    exact X9_.returnOut hx Bd.returns (Jvm.hb hby own_d6_65) hr
  · show Q_rm_prep Z a u v ku ms q m r h0 n0 _ T9_.heap _
    rw [e9_]
    exact ⟨(q + (ms.toInt64)), rfl, N9_, K9_, fc10_, fc11_, fc12_, fc13_, Fw9_⟩
theorem own_d7_17 : decode prog_28_method_2_code 17 = .ok (.iload 6, 2) := by decide +kernel
theorem own_d7_19 : decode prog_28_method_2_code 19 = .ok (.iload 5, 2) := by decide +kernel
theorem own_d7_21 : decode prog_28_method_2_code 21 = .ok (.if_icmp .ge 24, 3) := by decide +kernel
theorem own_d7_24 : decode prog_28_method_2_code 24 = .ok (.aload 4, 2) := by decide +kernel
theorem own_d7_26 : decode prog_28_method_2_code 26 = .ok (.iload 6, 2) := by decide +kernel
theorem own_d7_28 : decode prog_28_method_2_code 28 = .ok (.iaload, 1) := by decide +kernel
theorem own_d7_29 : decode prog_28_method_2_code 29 = .ok (.istore 7, 2) := by decide +kernel
theorem own_os0 {z0 : Value} {z1 : Value} {z2 : Value} {z4 : Value} {z5 : Value} {z6 : Value} {s7 : Slot} {v : Int32} (h : One s7) : storeLocals #[.val z0, .val z1, .val z2, .second, .val z4, .val z5, .val z6, s7] 7 (.int v) = some #[.val z0, .val z1, .val z2, .second, .val z4, .val z5, .val z6, .val (.int v)] := by
  rcases h with rfl | ⟨w, rfl, hw⟩
  · first | rfl | (simp [Value.category, Value.isRef] at *; done)
  · cases w <;> first | rfl | (simp [Value.category, Value.isRef] at *; done)
theorem own_d7_31 : decode prog_28_method_2_code 31 = .ok (.aload_n 0, 1) := by decide +kernel
theorem own_d7_32 : decode prog_28_method_2_code 32 = .ok (.getfield 7, 3) := by decide +kernel
theorem own_d7_35 : decode prog_28_method_2_code 35 = .ok (.iload 7, 2) := by decide +kernel
theorem own_d7_37 : decode prog_28_method_2_code 37 = .ok (.dload_n 2, 1) := by decide +kernel
theorem own_d7_38 : decode prog_28_method_2_code 38 = .ok (.dastore, 1) := by decide +kernel
theorem own_d7_39 : decode prog_28_method_2_code 39 = .ok (.iinc 6 1, 3) := by decide +kernel
theorem own_d7_42 : decode prog_28_method_2_code 42 = .ok (.goto (-25), 3) := by decide +kernel
set_option maxRecDepth 65536 in
set_option maxHeartbeats 40000000 in
theorem own_lps {pP : Program} {lL : Launch} {eE : Env} {R : Room} {sS : State} {mM : MethodId} {args : Array Value} {below : List Frame} {meth : Method} {cC : Code} {cells slots : Nat} {PP : State → Outcome → Prop} (Z : State) (a0 : Array Value) (hw : ∀ d ∈ tables_1, d.before a0 Z = true) (a : Addr) (t : Addr) (m : Addr) (z : Int32) (f : Int32 → Int32) (q0 : Int64) (s0 : Int32) (h0 : Heap) (n0 : Nat) (Z0 : n0 ≤ h0.size) (ga : n0 ≤ a) (gm : n0 ≤ m) (nma : m ≠ a) (nta : t ≠ a) (ntm : t ≠ m) (hb : ∀ j : Int32, ¬ j < 0 ∧ j < z → ¬ f j < 0 ∧ f j < (4 : Int32)) (hx : pP.tables.exec = Jvm.exec) (hZ : Z.Warmed39 sS.vm) (hby : cC.code = prog_28_method_2_code) (hml : cC.maxLocals = 8) (hown : sS.vm.findClass "com/example/chains_to_rank/chainstorank/graph/DoubleArithmetic" = some mM.cls)
    (kont0 : ∀ (s7 : Slot) (Th : State) (hh : Heap) (Lh : List Loc), Stand pP lL eE R sS mM args below meth cC Th Lh cells slots → Th.heap = hh → Fr n0 Lh → Keep h0 hh [a, m] → (Exa Z hh a "com/example/chains_to_rank/chainstorank/graph/DoubleArithmetic") → (Fld Z hh a "com/example/chains_to_rank/chainstorank/graph/DoubleArithmetic" "mass" "[D" (.ref m)) → (Fld Z hh a "com/example/chains_to_rank/chainstorank/graph/DoubleArithmetic" "roundings" "J" (.long q0)) → (Fld Z hh a "com/example/chains_to_rank/chainstorank/graph/DoubleArithmetic" "mostShares" "I" (.int s0)) → (own_T Z hh t .int z f) → (own_TD Z hh m (4 : Int32) (own_ms f (own_sp z) z.toNatClampNeg)) → own_Fin pP eE below PP (Th.setTop (mkF mM 45 #[.val (.ref a), .val (.ref t), .val (.double (own_sp z)), .second, .val (.ref t), .val (.int z), .val (.int (Int32.ofNat z.toNatClampNeg)), s7] []))) :
    ∀ (k i : Nat) (s7 : Slot) (Th : State) (hh : Heap) (Lh : List Loc), i + k = z.toNatClampNeg → Stand pP lL eE R sS mM args below meth cC Th Lh cells slots → Th.heap = hh → Fr n0 Lh → Keep h0 hh [a, m] → (Exa Z hh a "com/example/chains_to_rank/chainstorank/graph/DoubleArithmetic") → (Fld Z hh a "com/example/chains_to_rank/chainstorank/graph/DoubleArithmetic" "mass" "[D" (.ref m)) → (Fld Z hh a "com/example/chains_to_rank/chainstorank/graph/DoubleArithmetic" "roundings" "J" (.long q0)) → (Fld Z hh a "com/example/chains_to_rank/chainstorank/graph/DoubleArithmetic" "mostShares" "I" (.int s0)) → (own_T Z hh t .int z f) → (own_TD Z hh m (4 : Int32) (own_ms f (own_sp z) i)) → (One s7) → own_Fin pP eE below PP (Th.setTop (mkF mM 17 #[.val (.ref a), .val (.ref t), .val (.double (own_sp z)), .second, .val (.ref t), .val (.int z), .val (.int (Int32.ofNat i)), s7] [])) := by
  intro k
  induction k with
  | zero =>
      intro i s7 Th hh Lh hik Xh eh Nh Kh I0 I1 I2 I3 I4 I5 hs7
      show own_Fin pP eE below _ (Th.setTop (mkF mM 17 #[.val (.ref a), .val (.ref t), .val (.double (own_sp z)), .second, .val (.ref t), .val (.int z), .val (.int (Int32.ofNat i)), s7] []))
      have hz := I4.nn
      obtain rfl : i = z.toNatClampNeg := by omega
      show own_Fin pP eE below _ (Th.setTop (mkF mM 17 #[.val (.ref a), .val (.ref t), .val (.double (own_sp z)), .second, .val (.ref t), .val (.int z), .val (.int (Int32.ofNat z.toNatClampNeg)), s7] []))
      refine own_fin (b := Th.setTop (mkF mM 45 #[.val (.ref a), .val (.ref t), .val (.double (own_sp z)), .second, .val (.ref t), .val (.int z), .val (.int (Int32.ofNat z.toNatClampNeg)), s7] [])) (fun tT kK => ?_) ?_
      · show Steps pP.tables eE below (Th.setTop (mkF mM 17 #[.val (.ref a), .val (.ref t), .val (.double (own_sp z)), .second, .val (.ref t), .val (.int z), .val (.int (Int32.ofNat z.toNatClampNeg)), s7] [])) tT
        refine XS.iload Xh.here hx rfl (Jvm.hb hby own_d7_17) rfl ?_
        show Steps pP.tables eE below (Th.setTop (mkF mM 19 #[.val (.ref a), .val (.ref t), .val (.double (own_sp z)), .second, .val (.ref t), .val (.int z), .val (.int (Int32.ofNat z.toNatClampNeg)), s7] [(.int (Int32.ofNat z.toNatClampNeg))])) tT
        refine XS.iload Xh.here hx rfl (Jvm.hb hby own_d7_19) rfl ?_
        show Steps pP.tables eE below (Th.setTop (mkF mM 21 #[.val (.ref a), .val (.ref t), .val (.double (own_sp z)), .second, .val (.ref t), .val (.int z), .val (.int (Int32.ofNat z.toNatClampNeg)), s7] [(.int z), (.int (Int32.ofNat z.toNatClampNeg))])) tT
        refine XS.icmpYes Xh.here hx rfl (pc0 := 21) (pc' := 45) rfl (Jvm.hb hby own_d7_21) rfl (flt (own_nlt hz : ¬ ((Int32.ofNat z.toNatClampNeg) < z))).2.1 (by decide) (by decide) ?_
        show Steps pP.tables eE below (Th.setTop (mkF mM 45 #[.val (.ref a), .val (.ref t), .val (.double (own_sp z)), .second, .val (.ref t), .val (.int z), .val (.int (Int32.ofNat z.toNatClampNeg)), s7] [])) tT
        exact kK
      exact kont0 _ _ _ _ Xh eh Nh Kh I0 I1 I2 I3 I4 I5
  | succ k ih =>
      intro i s7 Th hh Lh hik Xh eh Nh Kh I0 I1 I2 I3 I4 I5 hs7
      show own_Fin pP eE below _ (Th.setTop (mkF mM 17 #[.val (.ref a), .val (.ref t), .val (.double (own_sp z)), .second, .val (.ref t), .val (.int z), .val (.int (Int32.ofNat i)), s7] []))
      have hz := I4.nn
      have hi : i < z.toNatClampNeg := by omega
      refine own_fin (b := Th.setTop (mkF mM 28 #[.val (.ref a), .val (.ref t), .val (.double (own_sp z)), .second, .val (.ref t), .val (.int z), .val (.int (Int32.ofNat i)), s7] [(.int (Int32.ofNat i)), (.ref t)])) (fun tT kK => ?_) ?_
      · show Steps pP.tables eE below (Th.setTop (mkF mM 17 #[.val (.ref a), .val (.ref t), .val (.double (own_sp z)), .second, .val (.ref t), .val (.int z), .val (.int (Int32.ofNat i)), s7] [])) tT
        refine XS.iload Xh.here hx rfl (Jvm.hb hby own_d7_17) rfl ?_
        show Steps pP.tables eE below (Th.setTop (mkF mM 19 #[.val (.ref a), .val (.ref t), .val (.double (own_sp z)), .second, .val (.ref t), .val (.int z), .val (.int (Int32.ofNat i)), s7] [(.int (Int32.ofNat i))])) tT
        refine XS.iload Xh.here hx rfl (Jvm.hb hby own_d7_19) rfl ?_
        show Steps pP.tables eE below (Th.setTop (mkF mM 21 #[.val (.ref a), .val (.ref t), .val (.double (own_sp z)), .second, .val (.ref t), .val (.int z), .val (.int (Int32.ofNat i)), s7] [(.int z), (.int (Int32.ofNat i))])) tT
        refine XS.icmpNo Xh.here hx rfl (Jvm.hb hby own_d7_21) rfl (tlt (own_ltz hz hi : (Int32.ofNat i) < z)).2.1 ?_
        show Steps pP.tables eE below (Th.setTop (mkF mM 24 #[.val (.ref a), .val (.ref t), .val (.double (own_sp z)), .second, .val (.ref t), .val (.int z), .val (.int (Int32.ofNat i)), s7] [])) tT
        refine XS.aload Xh.here hx rfl (Jvm.hb hby own_d7_24) rfl rfl ?_
        show Steps pP.tables eE below (Th.setTop (mkF mM 26 #[.val (.ref a), .val (.ref t), .val (.double (own_sp z)), .second, .val (.ref t), .val (.int z), .val (.int (Int32.ofNat i)), s7] [(.ref t)])) tT
        refine XS.iload Xh.here hx rfl (Jvm.hb hby own_d7_26) rfl ?_
        show Steps pP.tables eE below (Th.setTop (mkF mM 28 #[.val (.ref a), .val (.ref t), .val (.double (own_sp z)), .second, .val (.ref t), .val (.int z), .val (.int (Int32.ofNat i)), s7] [(.int (Int32.ofNat i)), (.ref t)])) tT
        exact kK
      obtain ⟨cl1_, Ar1_, Sz1_, Nn1_, Hh1_⟩ := id I4
      have hin1_ : ¬ ((Int32.ofNat i) < 0 ∨ cl1_.slots.size ≤ ((Int32.ofNat i)).toNatClampNeg) := inb_of Sz1_ (own_inz hz hi)
      have hat1_ : cl1_.slots[((Int32.ofNat i)).toNatClampNeg]? = some (.int (f (Int32.ofNat i))) := Hh1_ _ hin1_
      refine own_fin (b := Th.setTop (mkF mM 32 #[.val (.ref a), .val (.ref t), .val (.double (own_sp z)), .second, .val (.ref t), .val (.int z), .val (.int (Int32.ofNat i)), .val (.int (f (Int32.ofNat i)))] [(.ref a)])) (fun tT kK => ?_) ?_
      · show Steps pP.tables eE below (Th.setTop (mkF mM 28 #[.val (.ref a), .val (.ref t), .val (.double (own_sp z)), .second, .val (.ref t), .val (.int z), .val (.int (Int32.ofNat i)), s7] [(.int (Int32.ofNat i)), (.ref t)])) tT
        refine Xh.iaload hx (j := (Int32.ofNat i)) (v := (.int (f (Int32.ofNat i)))) (own_rw eh Ar1_.1) (State.isArrayOf_alike hZ.alike Ar1_.2.1) Ar1_.2.2 hin1_ hat1_ (g := (mkF mM 28 #[.val (.ref a), .val (.ref t), .val (.double (own_sp z)), .second, .val (.ref t), .val (.int z), .val (.int (Int32.ofNat i)), s7] [(.int (Int32.ofNat i)), (.ref t)])) rfl rfl (Jvm.hb hby own_d7_28) _ ?_
        show Steps pP.tables eE below (Th.setTop (mkF mM 29 #[.val (.ref a), .val (.ref t), .val (.double (own_sp z)), .second, .val (.ref t), .val (.int z), .val (.int (Int32.ofNat i)), s7] [(.int (f (Int32.ofNat i)))])) tT
        refine XS.istore Xh.here hx rfl (Jvm.hb hby own_d7_29) rfl (l' := #[.val (.ref a), .val (.ref t), .val (.double (own_sp z)), .second, .val (.ref t), .val (.int z), .val (.int (Int32.ofNat i)), .val (.int (f (Int32.ofNat i)))]) (own_os0 hs7) ?_
        show Steps pP.tables eE below (Th.setTop (mkF mM 31 #[.val (.ref a), .val (.ref t), .val (.double (own_sp z)), .second, .val (.ref t), .val (.int z), .val (.int (Int32.ofNat i)), .val (.int (f (Int32.ofNat i)))] [])) tT
        refine XS.aloadN Xh.here hx rfl (Jvm.hb hby own_d7_31) rfl rfl ?_
        show Steps pP.tables eE below (Th.setTop (mkF mM 32 #[.val (.ref a), .val (.ref t), .val (.double (own_sp z)), .second, .val (.ref t), .val (.int z), .val (.int (Int32.ofNat i)), .val (.int (f (Int32.ofNat i)))] [(.ref a)])) tT
        exact kK
      obtain ⟨T2_, X2_, e2_, st2_⟩ := getF Xh hx hZ hown (host := "") (Or.inl (hw _ (List.mem_of_getElem? (i := 12) rfl))) Via.refl eh I1 (g := (mkF mM 32 #[.val (.ref a), .val (.ref t), .val (.double (own_sp z)), .second, .val (.ref t), .val (.int z), .val (.int (Int32.ofNat i)), .val (.int (f (Int32.ofNat i)))] [(.ref a)])) rfl rfl (Jvm.hb hby own_d7_32)
      refine own_fin st2_ ?_
      show own_Fin pP eE below _ (T2_.setTop (mkF mM 35 #[.val (.ref a), .val (.ref t), .val (.double (own_sp z)), .second, .val (.ref t), .val (.int z), .val (.int (Int32.ofNat i)), .val (.int (f (Int32.ofNat i)))] [(.ref m)]))
      refine own_fin (b := T2_.setTop (mkF mM 38 #[.val (.ref a), .val (.ref t), .val (.double (own_sp z)), .second, .val (.ref t), .val (.int z), .val (.int (Int32.ofNat i)), .val (.int (f (Int32.ofNat i)))] [(.double (own_sp z)), (.int (f (Int32.ofNat i))), (.ref m)])) (fun tT kK => ?_) ?_
      · show Steps pP.tables eE below (T2_.setTop (mkF mM 35 #[.val (.ref a), .val (.ref t), .val (.double (own_sp z)), .second, .val (.ref t), .val (.int z), .val (.int (Int32.ofNat i)), .val (.int (f (Int32.ofNat i)))] [(.ref m)])) tT
        refine XS.iload X2_.here hx rfl (Jvm.hb hby own_d7_35) rfl ?_
        show Steps pP.tables eE below (T2_.setTop (mkF mM 37 #[.val (.ref a), .val (.ref t), .val (.double (own_sp z)), .second, .val (.ref t), .val (.int z), .val (.int (Int32.ofNat i)), .val (.int (f (Int32.ofNat i)))] [(.int (f (Int32.ofNat i))), (.ref m)])) tT
        refine XS.dloadN X2_.here hx rfl (Jvm.hb hby own_d7_37) rfl ?_
        show Steps pP.tables eE below (T2_.setTop (mkF mM 38 #[.val (.ref a), .val (.ref t), .val (.double (own_sp z)), .second, .val (.ref t), .val (.int z), .val (.int (Int32.ofNat i)), .val (.int (f (Int32.ofNat i)))] [(.double (own_sp z)), (.int (f (Int32.ofNat i))), (.ref m)])) tT
        exact kK
      obtain ⟨cl3_, Ar3_, Sz3_, Nn3_, Hh3_⟩ := id I5
      have hin3_ : ¬ ((f (Int32.ofNat i)) < 0 ∨ cl3_.slots.size ≤ ((f (Int32.ofNat i))).toNatClampNeg) := inb_of Sz3_ (hb _ (own_inz hz hi))
      obtain ⟨T3_, h3_, X3_, e3_, W3_, st3_⟩ := stD X2_ hx hZ e2_ Ar3_ (j := (f (Int32.ofNat i))) hin3_ (g := (mkF mM 38 #[.val (.ref a), .val (.ref t), .val (.double (own_sp z)), .second, .val (.ref t), .val (.int z), .val (.int (Int32.ofNat i)), .val (.int (f (Int32.ofNat i)))] [(.double (own_sp z)), (.int (f (Int32.ofNat i))), (.ref m)])) rfl rfl (Jvm.hb hby own_d7_38)
      have U3_ : own_TD Z h3_ m (4 : Int32) (own_upD (own_ms f (own_sp z) i) (f (Int32.ofNat i)) (own_sp z)) := own_TD.set ⟨cl3_, Ar3_, Sz3_, Nn3_, Hh3_⟩ W3_ (hb _ (own_inz hz hi))
      have fc4_ := I0.wr W3_
      have fc5_ := I1.other W3_ (Or.inl (Ne.symm nma))
      have fc6_ := I2.other W3_ (Or.inl (Ne.symm nma))
      have fc7_ := I3.other W3_ (Or.inl (Ne.symm nma))
      have fc8_ := I4.other W3_ ntm
      have K3_ := Kh.wr W3_ (Or.inl (List.mem_of_getElem? (i := 1) rfl))
      have N3_ := Fr.snoc X3_ Nh gm
      refine own_fin st3_ ?_
      show own_Fin pP eE below _ (T3_.setTop (mkF mM 39 #[.val (.ref a), .val (.ref t), .val (.double (own_sp z)), .second, .val (.ref t), .val (.int z), .val (.int (Int32.ofNat i)), .val (.int (f (Int32.ofNat i)))] []))
      refine own_fin (b := T3_.setTop (mkF mM 17 #[.val (.ref a), .val (.ref t), .val (.double (own_sp z)), .second, .val (.ref t), .val (.int z), .val (.int ((Int32.ofNat i) + (1 : Int32))), .val (.int (f (Int32.ofNat i)))] [])) (fun tT kK => ?_) ?_
      · show Steps pP.tables eE below (T3_.setTop (mkF mM 39 #[.val (.ref a), .val (.ref t), .val (.double (own_sp z)), .second, .val (.ref t), .val (.int z), .val (.int (Int32.ofNat i)), .val (.int (f (Int32.ofNat i)))] [])) tT
        refine XS.iinc X3_.here hx rfl (Jvm.hb hby own_d7_39) rfl (l' := #[.val (.ref a), .val (.ref t), .val (.double (own_sp z)), .second, .val (.ref t), .val (.int z), .val (.int ((Int32.ofNat i) + (1 : Int32))), .val (.int (f (Int32.ofNat i)))]) rfl ?_
        show Steps pP.tables eE below (T3_.setTop (mkF mM 42 #[.val (.ref a), .val (.ref t), .val (.double (own_sp z)), .second, .val (.ref t), .val (.int z), .val (.int ((Int32.ofNat i) + (1 : Int32))), .val (.int (f (Int32.ofNat i)))] [])) tT
        refine XS.goto X3_.here hx rfl (pc0 := 42) (pc' := 17) rfl (Jvm.hb hby own_d7_42) (by decide) (by decide) ?_
        show Steps pP.tables eE below (T3_.setTop (mkF mM 17 #[.val (.ref a), .val (.ref t), .val (.double (own_sp z)), .second, .val (.ref t), .val (.int z), .val (.int ((Int32.ofNat i) + (1 : Int32))), .val (.int (f (Int32.ofNat i)))] [])) tT
        exact kK
      rw [own_one i]
      exact ih (i + 1) _ _ _ _ (by omega) X3_ e3_ N3_ K3_ fc4_ fc5_ fc6_ fc7_ fc8_ U3_ (One.val rfl)
theorem own_d7_0 : decode prog_28_method_2_code 0 = .ok (.dconst 1, 1) := by decide +kernel
theorem own_d7_1 : decode prog_28_method_2_code 1 = .ok (.aload_n 1, 1) := by decide +kernel
theorem own_d7_2 : decode prog_28_method_2_code 2 = .ok (.arraylength, 1) := by decide +kernel
theorem own_d7_3 : decode prog_28_method_2_code 3 = .ok (.i2d, 1) := by decide +kernel
theorem own_d7_4 : decode prog_28_method_2_code 4 = .ok (.ddiv, 1) := by decide +kernel
theorem own_d7_5 : decode prog_28_method_2_code 5 = .ok (.dstore_n 2, 1) := by decide +kernel
theorem own_d7_6 : decode prog_28_method_2_code 6 = .ok (.aload_n 1, 1) := by decide +kernel
theorem own_d7_7 : decode prog_28_method_2_code 7 = .ok (.astore 4, 2) := by decide +kernel
theorem own_d7_9 : decode prog_28_method_2_code 9 = .ok (.aload 4, 2) := by decide +kernel
theorem own_d7_11 : decode prog_28_method_2_code 11 = .ok (.arraylength, 1) := by decide +kernel
theorem own_d7_12 : decode prog_28_method_2_code 12 = .ok (.istore 5, 2) := by decide +kernel
theorem own_d7_14 : decode prog_28_method_2_code 14 = .ok (.iconst 0, 1) := by decide +kernel
theorem own_d7_15 : decode prog_28_method_2_code 15 = .ok (.istore 6, 2) := by decide +kernel
theorem own_d7_45 : decode prog_28_method_2_code 45 = .ok (.aload_n 0, 1) := by decide +kernel
theorem own_d7_46 : decode prog_28_method_2_code 46 = .ok (.lconst 1, 1) := by decide +kernel
theorem own_d7_47 : decode prog_28_method_2_code 47 = .ok (.putfield 19, 3) := by decide +kernel
theorem own_d7_50 : decode prog_28_method_2_code 50 = .ok (.aload_n 0, 1) := by decide +kernel
theorem own_d7_51 : decode prog_28_method_2_code 51 = .ok (.iconst 0, 1) := by decide +kernel
theorem own_d7_52 : decode prog_28_method_2_code 52 = .ok (.putfield 23, 3) := by decide +kernel
theorem own_d7_55 : decode prog_28_method_2_code 55 = .ok (.return_, 1) := by decide +kernel
theorem own_ef_rm_start (mM : MethodId) (x0 : Addr) (x1 : Addr) : entryFrame mM #[(.ref x0), (.ref x1)] 8 = mkF mM 0 #[.val (.ref x0), .val (.ref x1), .unset, .unset, .unset, .unset, .unset, .unset] [] := by first | (simp [entryFrame, mkF, argsToLocals, Value.category]; done) | rfl
def Q_rm_start (Z : State) (a : Addr) (t : Addr) (m : Addr) (z : Int32) (f : Int32 → Int32) (q0 : Int64) (s0 : Int32) (h0 : Heap) (n0 : Nat) (vV : Option Value) (hH : Heap) (lA : List Loc) : Prop := vV = none ∧ Fr n0 lA ∧ (Keep h0 hH [a, m]) ∧ (Exa Z hH a "com/example/chains_to_rank/chainstorank/graph/DoubleArithmetic") ∧ (Fld Z hH a "com/example/chains_to_rank/chainstorank/graph/DoubleArithmetic" "mass" "[D" (.ref m)) ∧ (Fld Z hH a "com/example/chains_to_rank/chainstorank/graph/DoubleArithmetic" "roundings" "J" (.long (1 : Int64))) ∧ (Fld Z hH a "com/example/chains_to_rank/chainstorank/graph/DoubleArithmetic" "mostShares" "I" (.int (0 : Int32))) ∧ (own_TD Z hH m (4 : Int32) (own_ms f (own_sp z) z.toNatClampNeg))
set_option maxRecDepth 65536 in
set_option maxHeartbeats 40000000 in
theorem rm_start (lL : Launch) (Z : State) (a0 : Array Value) (hw : ∀ d ∈ tables_1, d.before a0 Z = true) (ws : List Jvm.Cond) (a : Addr) (t : Addr) (m : Addr) (z : Int32) (f : Int32 → Int32) (q0 : Int64) (s0 : Int32) (h0 : Heap) (n0 : Nat) (Z0 : n0 ≤ h0.size) (Ea : Exa Z h0 a "com/example/chains_to_rank/chainstorank/graph/DoubleArithmetic") (Fm : Fld Z h0 a "com/example/chains_to_rank/chainstorank/graph/DoubleArithmetic" "mass" "[D" (.ref m)) (Fq : Fld Z h0 a "com/example/chains_to_rank/chainstorank/graph/DoubleArithmetic" "roundings" "J" (.long q0)) (Fs : Fld Z h0 a "com/example/chains_to_rank/chainstorank/graph/DoubleArithmetic" "mostShares" "I" (.int s0)) (Tt : own_T Z h0 t .int z f) (T1 : own_TD Z h0 m (4 : Int32) (fun _ => (0 : UInt64))) (ga : n0 ≤ a) (gm : n0 ≤ m) (nma : m ≠ a) (nta : t ≠ a) (ntm : t ≠ m) (hb : ∀ j : Int32, ¬ j < 0 ∧ j < z → ¬ f j < 0 ∧ f j < (4 : Int32)) (hn : NoNaN64 (own_sp z)) :
    MetFree lL (⟨"com/example/chains_to_rank/chainstorank/graph/DoubleArithmetic", "start", "([I)V"⟩ : MethodName) (head1 (Jvm.Cond.code (⟨"com/example/chains_to_rank/chainstorank/graph/DoubleArithmetic", "start", "([I)V"⟩ : MethodName) prog_28_method_2_code 8 none :: ws) ({ frames := 0, cells := 0, slots := 0, locals := 0 } : Room)) (fun aA uU => aA = #[(.ref a), (.ref t)] ∧ Z.Warmed39 uU.vm ∧ uU.heap = h0) (fun _ _ _ _ _ => True) (fun _ uU oO uU' => ∃ vV lA, oO = .returned vV ∧ Q_rm_start Z a t m z f q0 s0 h0 n0 vV uU'.heap lA ∧ FrameEnd uU oO uU' lA ({ frames := 0, cells := 0, slots := 0, locals := 0 } : Room).cells ({ frames := 0, cells := 0, slots := 0, locals := 0 } : Room).slots) := by
  refine MetFree.of_bodySF (plainFor_of_name own_pn_com_example_chains_to_rank_chainstorank_graph_DoubleArithmetic) hisR ?_
  intro pP eE sS mM args below meth cC s₁ Bd hml0 hP hK
  obtain ⟨rfl, hZ, hh⟩ := hP
  have hx := Bd.exec
  have hby := Bd.bytes
  have hml : cC.maxLocals = 8 := hml0
  have hown : sS.vm.findClass "com/example/chains_to_rank/chainstorank/graph/DoubleArithmetic" = some mM.cls := findClass_of_methodNamed Bd.named
  have hnm := (name_of_methodNamed Bd.named Bd.method).1
  have X0 : Stand pP lL eE ({ frames := 0, cells := 0, slots := 0, locals := 0 } : Room) sS mM #[(.ref a), (.ref t)] below meth cC s₁ [] 0 0 := Stand.of_body Bd
  have e0 : s₁.heap = h0 := by rw [← hh, Bd.state]; rfl
  have N0 := Fr.nil n0
  have K0 := Keep.refl h0 [a, m]
  show own_Fin pP eE below (fun tT oO => ∃ vV lA, oO = .returned vV ∧ Q_rm_start Z a t m z f q0 s0 h0 n0 vV tT.heap lA ∧ FrameEnd sS oO tT lA ({ frames := 0, cells := 0, slots := 0, locals := 0 } : Room).cells ({ frames := 0, cells := 0, slots := 0, locals := 0 } : Room).slots) (s₁.setTop (entryFrame mM #[(.ref a), (.ref t)] 8))
  refine own_fin (b := s₁.setTop (mkF mM 0 #[.val (.ref a), .val (.ref t), .unset, .unset, .unset, .unset, .unset, .unset] [])) (fun tT kK => castTop (own_ef_rm_start mM a t) kK) ?_
  refine own_fin (b := s₁.setTop (mkF mM 2 #[.val (.ref a), .val (.ref t), .unset, .unset, .unset, .unset, .unset, .unset] [(.ref t), (.double (4607182418800017408 : UInt64))])) (fun tT kK => ?_) ?_
  · show Steps pP.tables eE below (s₁.setTop (mkF mM 0 #[.val (.ref a), .val (.ref t), .unset, .unset, .unset, .unset, .unset, .unset] [])) tT
    refine XS.dconst1 X0.here hx rfl (Jvm.hb hby own_d7_0) (v := (4607182418800017408 : UInt64)) rfl ?_
    show Steps pP.tables eE below (s₁.setTop (mkF mM 1 #[.val (.ref a), .val (.ref t), .unset, .unset, .unset, .unset, .unset, .unset] [(.double (4607182418800017408 : UInt64))])) tT
    refine XS.aloadN X0.here hx rfl (Jvm.hb hby own_d7_1) rfl rfl ?_
    show Steps pP.tables eE below (s₁.setTop (mkF mM 2 #[.val (.ref a), .val (.ref t), .unset, .unset, .unset, .unset, .unset, .unset] [(.ref t), (.double (4607182418800017408 : UInt64))])) tT
    exact kK
  obtain ⟨cl1_, Ar1_, Sz1_, Nn1_, -⟩ := id Tt
  refine own_fin (b := s₁.setTop (mkF mM 11 #[.val (.ref a), .val (.ref t), .val (.double (own_sp z)), .second, .val (.ref t), .unset, .unset, .unset] [(.ref t)])) (fun tT kK => ?_) ?_
  · show Steps pP.tables eE below (s₁.setTop (mkF mM 2 #[.val (.ref a), .val (.ref t), .unset, .unset, .unset, .unset, .unset, .unset] [(.ref t), (.double (4607182418800017408 : UInt64))])) tT
    refine X0.arraylength hx (own_rw e0 Ar1_.1) (State.isArrayOf_alike hZ.alike Ar1_.2.1) (g := (mkF mM 2 #[.val (.ref a), .val (.ref t), .unset, .unset, .unset, .unset, .unset, .unset] [(.ref t), (.double (4607182418800017408 : UInt64))])) rfl rfl (Jvm.hb hby own_d7_2) _ ?_
    rw [len_of Sz1_ Nn1_]
    show Steps pP.tables eE below (s₁.setTop (mkF mM 3 #[.val (.ref a), .val (.ref t), .unset, .unset, .unset, .unset, .unset, .unset] [(.int z), (.double (4607182418800017408 : UInt64))])) tT
    refine XS.i2dS X0.here hx rfl (Jvm.hb hby own_d7_3) rfl rfl ?_
    show Steps pP.tables eE below (s₁.setTop (mkF mM 4 #[.val (.ref a), .val (.ref t), .unset, .unset, .unset, .unset, .unset, .unset] [(.double (FP.i2d z)), (.double (4607182418800017408 : UInt64))])) tT
    refine XS.ddivS X0.here hx rfl (Jvm.hb hby own_d7_4) rfl hn (v := (own_sp z)) rfl ?_
    show Steps pP.tables eE below (s₁.setTop (mkF mM 5 #[.val (.ref a), .val (.ref t), .unset, .unset, .unset, .unset, .unset, .unset] [(.double (own_sp z))])) tT
    refine XS.dstoreN X0.here hx rfl (Jvm.hb hby own_d7_5) rfl (l' := #[.val (.ref a), .val (.ref t), .val (.double (own_sp z)), .second, .unset, .unset, .unset, .unset]) rfl ?_
    show Steps pP.tables eE below (s₁.setTop (mkF mM 6 #[.val (.ref a), .val (.ref t), .val (.double (own_sp z)), .second, .unset, .unset, .unset, .unset] [])) tT
    refine XS.aloadN X0.here hx rfl (Jvm.hb hby own_d7_6) rfl rfl ?_
    show Steps pP.tables eE below (s₁.setTop (mkF mM 7 #[.val (.ref a), .val (.ref t), .val (.double (own_sp z)), .second, .unset, .unset, .unset, .unset] [(.ref t)])) tT
    refine XS.astore X0.here hx rfl (Jvm.hb hby own_d7_7) rfl rfl (l' := #[.val (.ref a), .val (.ref t), .val (.double (own_sp z)), .second, .val (.ref t), .unset, .unset, .unset]) rfl ?_
    show Steps pP.tables eE below (s₁.setTop (mkF mM 9 #[.val (.ref a), .val (.ref t), .val (.double (own_sp z)), .second, .val (.ref t), .unset, .unset, .unset] [])) tT
    refine XS.aload X0.here hx rfl (Jvm.hb hby own_d7_9) rfl rfl ?_
    show Steps pP.tables eE below (s₁.setTop (mkF mM 11 #[.val (.ref a), .val (.ref t), .val (.double (own_sp z)), .second, .val (.ref t), .unset, .unset, .unset] [(.ref t)])) tT
    exact kK
  obtain ⟨cl2_, Ar2_, Sz2_, Nn2_, -⟩ := id Tt
  refine own_fin (b := s₁.setTop (mkF mM 17 #[.val (.ref a), .val (.ref t), .val (.double (own_sp z)), .second, .val (.ref t), .val (.int z), .val (.int (0 : Int32)), .unset] [])) (fun tT kK => ?_) ?_
  · show Steps pP.tables eE below (s₁.setTop (mkF mM 11 #[.val (.ref a), .val (.ref t), .val (.double (own_sp z)), .second, .val (.ref t), .unset, .unset, .unset] [(.ref t)])) tT
    refine X0.arraylength hx (own_rw e0 Ar2_.1) (State.isArrayOf_alike hZ.alike Ar2_.2.1) (g := (mkF mM 11 #[.val (.ref a), .val (.ref t), .val (.double (own_sp z)), .second, .val (.ref t), .unset, .unset, .unset] [(.ref t)])) rfl rfl (Jvm.hb hby own_d7_11) _ ?_
    rw [len_of Sz2_ Nn2_]
    show Steps pP.tables eE below (s₁.setTop (mkF mM 12 #[.val (.ref a), .val (.ref t), .val (.double (own_sp z)), .second, .val (.ref t), .unset, .unset, .unset] [(.int z)])) tT
    refine XS.istore X0.here hx rfl (Jvm.hb hby own_d7_12) rfl (l' := #[.val (.ref a), .val (.ref t), .val (.double (own_sp z)), .second, .val (.ref t), .val (.int z), .unset, .unset]) rfl ?_
    show Steps pP.tables eE below (s₁.setTop (mkF mM 14 #[.val (.ref a), .val (.ref t), .val (.double (own_sp z)), .second, .val (.ref t), .val (.int z), .unset, .unset] [])) tT
    refine XS.iconst X0.here hx rfl (Jvm.hb hby own_d7_14) ?_
    show Steps pP.tables eE below (s₁.setTop (mkF mM 15 #[.val (.ref a), .val (.ref t), .val (.double (own_sp z)), .second, .val (.ref t), .val (.int z), .unset, .unset] [(.int (0 : Int32))])) tT
    refine XS.istore X0.here hx rfl (Jvm.hb hby own_d7_15) rfl (l' := #[.val (.ref a), .val (.ref t), .val (.double (own_sp z)), .second, .val (.ref t), .val (.int z), .val (.int (0 : Int32)), .unset]) rfl ?_
    show Steps pP.tables eE below (s₁.setTop (mkF mM 17 #[.val (.ref a), .val (.ref t), .val (.double (own_sp z)), .second, .val (.ref t), .val (.int z), .val (.int (0 : Int32)), .unset] [])) tT
    exact kK
  show own_Fin pP eE below _ (s₁.setTop (mkF mM 17 #[.val (.ref a), .val (.ref t), .val (.double (own_sp z)), .second, .val (.ref t), .val (.int z), .val (.int (0 : Int32)), .unset] []))
  refine own_lps Z a0 hw a t m z f q0 s0 h0 n0 Z0 ga gm nma nta ntm hb hx hZ hby hml hown ?_ z.toNatClampNeg 0 _ _ _ _ (by omega) X0 e0 N0 K0 Ea Fm Fq Fs Tt T1 One.u
  intro s7_3_ T3_ h3_ L3_ X3_ e3_ N3_ K3_ p3__0 p3__1 p3__2 p3__3 p3__4 p3__5
  show own_Fin pP eE below _ (T3_.setTop (mkF mM 45 #[.val (.ref a), .val (.ref t), .val (.double (own_sp z)), .second, .val (.ref t), .val (.int z), .val (.int (Int32.ofNat z.toNatClampNeg)), s7_3_] []))
  refine own_fin (b := T3_.setTop (mkF mM 47 #[.val (.ref a), .val (.ref t), .val (.double (own_sp z)), .second, .val (.ref t), .val (.int z), .val (.int (Int32.ofNat z.toNatClampNeg)), s7_3_] [(.long (1 : Int64)), (.ref a)])) (fun tT kK => ?_) ?_
  · show Steps pP.tables eE below (T3_.setTop (mkF mM 45 #[.val (.ref a), .val (.ref t), .val (.double (own_sp z)), .second, .val (.ref t), .val (.int z), .val (.int (Int32.ofNat z.toNatClampNeg)), s7_3_] [])) tT
    refine XS.aloadN X3_.here hx rfl (Jvm.hb hby own_d7_45) rfl rfl ?_
    show Steps pP.tables eE below (T3_.setTop (mkF mM 46 #[.val (.ref a), .val (.ref t), .val (.double (own_sp z)), .second, .val (.ref t), .val (.int z), .val (.int (Int32.ofNat z.toNatClampNeg)), s7_3_] [(.ref a)])) tT
    refine XS.lconst X3_.here hx rfl (Jvm.hb hby own_d7_46) ?_
    show Steps pP.tables eE below (T3_.setTop (mkF mM 47 #[.val (.ref a), .val (.ref t), .val (.double (own_sp z)), .second, .val (.ref t), .val (.int z), .val (.int (Int32.ofNat z.toNatClampNeg)), s7_3_] [(.long (1 : Int64)), (.ref a)])) tT
    exact kK
  obtain ⟨T4_, h4_, X4_, e4_, W4_, st4_⟩ := putF X3_ hx hZ hown (host := "") (Or.inl (hw _ (List.mem_of_getElem? (i := 39) rfl))) Via.refl e3_ p3__2 p3__0 (Or.inl (hw _ (List.mem_of_getElem? (i := 40) rfl))) (hw _ (List.mem_of_getElem? (i := 3) rfl)) (ty := .long) (by decide) rfl rfl (g := (mkF mM 47 #[.val (.ref a), .val (.ref t), .val (.double (own_sp z)), .second, .val (.ref t), .val (.int z), .val (.int (Int32.ofNat z.toNatClampNeg)), s7_3_] [(.long (1 : Int64)), (.ref a)])) rfl rfl (Jvm.hb hby own_d7_47)
  have Fw4_ := p3__2.same W4_
  have fc5_ := p3__0.wr W4_
  have fc6_ := p3__1.other W4_ (Or.inr (slot_ne (Or.inr (hw _ (List.mem_of_getElem? (i := 13) rfl))) (Or.inl (hw _ (List.mem_of_getElem? (i := 40) rfl))) (by decide) (t := (.array .double)) (t' := .long) (by decide) (by decide)))
  have fc7_ := p3__3.other W4_ (Or.inr (slot_ne (Or.inl (hw _ (List.mem_of_getElem? (i := 24) rfl))) (Or.inl (hw _ (List.mem_of_getElem? (i := 40) rfl))) (by decide) (t := .int) (t' := .long) (by decide) (by decide)))
  have fc8_ := p3__4.other W4_ nta
  have fc9_ := p3__5.other W4_ nma
  have K4_ := K3_.wr W4_ (Or.inl (List.mem_of_getElem? (i := 0) rfl))
  have N4_ := Fr.snoc X4_ N3_ ga
  refine own_fin st4_ ?_
  show own_Fin pP eE below _ (T4_.setTop (mkF mM 50 #[.val (.ref a), .val (.ref t), .val (.double (own_sp z)), .second, .val (.ref t), .val (.int z), .val (.int (Int32.ofNat z.toNatClampNeg)), s7_3_] []))
  refine own_fin (b := T4_.setTop (mkF mM 52 #[.val (.ref a), .val (.ref t), .val (.double (own_sp z)), .second, .val (.ref t), .val (.int z), .val (.int (Int32.ofNat z.toNatClampNeg)), s7_3_] [(.int (0 : Int32)), (.ref a)])) (fun tT kK => ?_) ?_
  · show Steps pP.tables eE below (T4_.setTop (mkF mM 50 #[.val (.ref a), .val (.ref t), .val (.double (own_sp z)), .second, .val (.ref t), .val (.int z), .val (.int (Int32.ofNat z.toNatClampNeg)), s7_3_] [])) tT
    refine XS.aloadN X4_.here hx rfl (Jvm.hb hby own_d7_50) rfl rfl ?_
    show Steps pP.tables eE below (T4_.setTop (mkF mM 51 #[.val (.ref a), .val (.ref t), .val (.double (own_sp z)), .second, .val (.ref t), .val (.int z), .val (.int (Int32.ofNat z.toNatClampNeg)), s7_3_] [(.ref a)])) tT
    refine XS.iconst X4_.here hx rfl (Jvm.hb hby own_d7_51) ?_
    show Steps pP.tables eE below (T4_.setTop (mkF mM 52 #[.val (.ref a), .val (.ref t), .val (.double (own_sp z)), .second, .val (.ref t), .val (.int z), .val (.int (Int32.ofNat z.toNatClampNeg)), s7_3_] [(.int (0 : Int32)), (.ref a)])) tT
    exact kK
  obtain ⟨T10_, h10_, X10_, e10_, W10_, st10_⟩ := putF X4_ hx hZ hown (host := "") (Or.inl (hw _ (List.mem_of_getElem? (i := 23) rfl))) Via.refl e4_ fc7_ fc5_ (Or.inl (hw _ (List.mem_of_getElem? (i := 24) rfl))) (hw _ (List.mem_of_getElem? (i := 3) rfl)) (ty := .int) (by decide) rfl rfl (g := (mkF mM 52 #[.val (.ref a), .val (.ref t), .val (.double (own_sp z)), .second, .val (.ref t), .val (.int z), .val (.int (Int32.ofNat z.toNatClampNeg)), s7_3_] [(.int (0 : Int32)), (.ref a)])) rfl rfl (Jvm.hb hby own_d7_52)
  have Fw10_ := fc7_.same W10_
  have fc11_ := fc5_.wr W10_
  have fc12_ := fc6_.other W10_ (Or.inr (slot_ne (Or.inr (hw _ (List.mem_of_getElem? (i := 13) rfl))) (Or.inl (hw _ (List.mem_of_getElem? (i := 24) rfl))) (by decide) (t := (.array .double)) (t' := .int) (by decide) (by decide)))
  have fc13_ := Fw4_.other W10_ (Or.inr (slot_ne (Or.inl (hw _ (List.mem_of_getElem? (i := 40) rfl))) (Or.inl (hw _ (List.mem_of_getElem? (i := 24) rfl))) (by decide) (t := .long) (t' := .int) (by decide) (by decide)))
  have fc14_ := fc8_.other W10_ nta
  have fc15_ := fc9_.other W10_ nma
  have K10_ := K4_.wr W10_ (Or.inl (List.mem_of_getElem? (i := 0) rfl))
  have N10_ := Fr.snoc X10_ N4_ ga
  refine own_fin st10_ ?_
  show own_Fin pP eE below _ (T10_.setTop (mkF mM 55 #[.val (.ref a), .val (.ref t), .val (.double (own_sp z)), .second, .val (.ref t), .val (.int z), .val (.int (Int32.ofNat z.toNatClampNeg)), s7_3_] []))
  obtain ⟨fs, hr, hrun, hended, hW, hsame⟩ := X10_.leave (v := none) (fun _ => rfl)
  refine ⟨_, _, ?_, hrun, hended, _, _, rfl, ?_, ⟨_, rfl⟩, hW, hsame.mono (by decide) (by decide)⟩
  · show Steps pP.tables eE below (T10_.setTop (mkF mM 55 #[.val (.ref a), .val (.ref t), .val (.double (own_sp z)), .second, .val (.ref t), .val (.int z), .val (.int (Int32.ofNat z.toNatClampNeg)), s7_3_] [])) _
    exact X10_.returnOut hx Bd.returns (Jvm.hb hby own_d7_55) hr
  · show Q_rm_start Z a t m z f q0 s0 h0 n0 _ T10_.heap _
    rw [e10_]
    exact ⟨rfl, N10_, K10_, fc11_, fc12_, fc13_, Fw10_, fc15_⟩
theorem own_d8_0 : decode prog_28_method_9_code 0 = .ok (.aload_n 0, 1) := by decide +kernel
theorem own_d8_1 : decode prog_28_method_9_code 1 = .ok (.getfield 7, 3) := by decide +kernel
theorem own_d8_4 : decode prog_28_method_9_code 4 = .ok (.iload_n 1, 1) := by decide +kernel
theorem own_d8_5 : decode prog_28_method_9_code 5 = .ok (.daload, 1) := by decide +kernel
theorem own_d8_6 : decode prog_28_method_9_code 6 = .ok (.dreturn, 1) := by decide +kernel
theorem own_ef_rm_mass (mM : MethodId) (x0 : Addr) (x1 : Int32) : entryFrame mM #[(.ref x0), (.int x1)] 2 = mkF mM 0 #[.val (.ref x0), .val (.int x1)] [] := by first | (simp [entryFrame, mkF, argsToLocals, Value.category]; done) | rfl
def Q_rm_mass (Z : State) (a : Addr) (p : Int32) (m : Addr) (f : Int32 → UInt64) (h0 : Heap) (n0 : Nat) (vV : Option Value) (hH : Heap) (lA : List Loc) : Prop := vV = some (.double (f p)) ∧ Fr n0 lA ∧ (hH = h0)
set_option maxRecDepth 65536 in
set_option maxHeartbeats 40000000 in
theorem rm_mass (lL : Launch) (Z : State) (a0 : Array Value) (hw : ∀ d ∈ tables_1, d.before a0 Z = true) (ws : List Jvm.Cond) (a : Addr) (p : Int32) (m : Addr) (f : Int32 → UInt64) (h0 : Heap) (n0 : Nat) (Z0 : n0 ≤ h0.size) (Fm : Fld Z h0 a "com/example/chains_to_rank/chainstorank/graph/DoubleArithmetic" "mass" "[D" (.ref m)) (T1 : own_TD Z h0 m (4 : Int32) f) (hi : ¬ p < 0 ∧ p < (4 : Int32)) :
    MetFree lL (⟨"com/example/chains_to_rank/chainstorank/graph/DoubleArithmetic", "mass", "(I)D"⟩ : MethodName) (head1 (Jvm.Cond.code (⟨"com/example/chains_to_rank/chainstorank/graph/DoubleArithmetic", "mass", "(I)D"⟩ : MethodName) prog_28_method_9_code 2 (some .double) :: ws) ({ frames := 0, cells := 0, slots := 0, locals := 0 } : Room)) (fun aA uU => aA = #[(.ref a), (.int p)] ∧ Z.Warmed39 uU.vm ∧ uU.heap = h0) (fun _ _ _ _ _ => True) (fun _ uU oO uU' => ∃ vV lA, oO = .returned vV ∧ Q_rm_mass Z a p m f h0 n0 vV uU'.heap lA ∧ FrameEnd uU oO uU' lA ({ frames := 0, cells := 0, slots := 0, locals := 0 } : Room).cells ({ frames := 0, cells := 0, slots := 0, locals := 0 } : Room).slots) := by
  refine MetFree.of_bodySF (plainFor_of_name own_pn_com_example_chains_to_rank_chainstorank_graph_DoubleArithmetic) hisR ?_
  intro pP eE sS mM args below meth cC s₁ Bd hml0 hP hK
  obtain ⟨rfl, hZ, hh⟩ := hP
  have hx := Bd.exec
  have hby := Bd.bytes
  have hml : cC.maxLocals = 2 := hml0
  have hown : sS.vm.findClass "com/example/chains_to_rank/chainstorank/graph/DoubleArithmetic" = some mM.cls := findClass_of_methodNamed Bd.named
  have hnm := (name_of_methodNamed Bd.named Bd.method).1
  have X0 : Stand pP lL eE ({ frames := 0, cells := 0, slots := 0, locals := 0 } : Room) sS mM #[(.ref a), (.int p)] below meth cC s₁ [] 0 0 := Stand.of_body Bd
  have e0 : s₁.heap = h0 := by rw [← hh, Bd.state]; rfl
  have N0 := Fr.nil n0
  have K0 := Keep.refl h0 ([] : List Addr)
  show own_Fin pP eE below (fun tT oO => ∃ vV lA, oO = .returned vV ∧ Q_rm_mass Z a p m f h0 n0 vV tT.heap lA ∧ FrameEnd sS oO tT lA ({ frames := 0, cells := 0, slots := 0, locals := 0 } : Room).cells ({ frames := 0, cells := 0, slots := 0, locals := 0 } : Room).slots) (s₁.setTop (entryFrame mM #[(.ref a), (.int p)] 2))
  refine own_fin (b := s₁.setTop (mkF mM 0 #[.val (.ref a), .val (.int p)] [])) (fun tT kK => castTop (own_ef_rm_mass mM a p) kK) ?_
  refine own_fin (b := s₁.setTop (mkF mM 1 #[.val (.ref a), .val (.int p)] [(.ref a)])) (fun tT kK => ?_) ?_
  · show Steps pP.tables eE below (s₁.setTop (mkF mM 0 #[.val (.ref a), .val (.int p)] [])) tT
    refine XS.aloadN X0.here hx rfl (Jvm.hb hby own_d8_0) rfl rfl ?_
    show Steps pP.tables eE below (s₁.setTop (mkF mM 1 #[.val (.ref a), .val (.int p)] [(.ref a)])) tT
    exact kK
  obtain ⟨T1_, X1_, e1_, st1_⟩ := getF X0 hx hZ hown (host := "") (Or.inl (hw _ (List.mem_of_getElem? (i := 12) rfl))) Via.refl e0 Fm (g := (mkF mM 1 #[.val (.ref a), .val (.int p)] [(.ref a)])) rfl rfl (Jvm.hb hby own_d8_1)
  refine own_fin st1_ ?_
  show own_Fin pP eE below _ (T1_.setTop (mkF mM 4 #[.val (.ref a), .val (.int p)] [(.ref m)]))
  refine own_fin (b := T1_.setTop (mkF mM 5 #[.val (.ref a), .val (.int p)] [(.int p), (.ref m)])) (fun tT kK => ?_) ?_
  · show Steps pP.tables eE below (T1_.setTop (mkF mM 4 #[.val (.ref a), .val (.int p)] [(.ref m)])) tT
    refine XS.iloadN X1_.here hx rfl (Jvm.hb hby own_d8_4) rfl ?_
    show Steps pP.tables eE below (T1_.setTop (mkF mM 5 #[.val (.ref a), .val (.int p)] [(.int p), (.ref m)])) tT
    exact kK
  obtain ⟨cl2_, Ar2_, Sz2_, Nn2_, Hh2_⟩ := id T1
  have hin2_ : ¬ (p < 0 ∨ cl2_.slots.size ≤ (p).toNatClampNeg) := inb_of Sz2_ hi
  have hat2_ : cl2_.slots[(p).toNatClampNeg]? = some (.double (f p)) := Hh2_ _ hin2_
  refine own_fin (b := T1_.setTop (mkF mM 6 #[.val (.ref a), .val (.int p)] [(.double (f p))])) (fun tT kK => ?_) ?_
  · show Steps pP.tables eE below (T1_.setTop (mkF mM 5 #[.val (.ref a), .val (.int p)] [(.int p), (.ref m)])) tT
    refine X1_.daload hx (j := p) (v := (.double (f p))) (own_rw e1_ Ar2_.1) (State.isArrayOf_alike hZ.alike Ar2_.2.1) Ar2_.2.2 hin2_ hat2_ (g := (mkF mM 5 #[.val (.ref a), .val (.int p)] [(.int p), (.ref m)])) rfl rfl (Jvm.hb hby own_d8_5) _ ?_
    show Steps pP.tables eE below (T1_.setTop (mkF mM 6 #[.val (.ref a), .val (.int p)] [(.double (f p))])) tT
    exact kK
  obtain ⟨fs, hr, hrun, hended, hW, hsame⟩ := X1_.leave (v := some (.double (f p))) (fun h => by rw [Bd.returns] at h; cases h)
  refine ⟨_, _, ?_, hrun, hended, _, _, rfl, ?_, ⟨_, rfl⟩, hW, hsame.mono (by decide) (by decide)⟩
  · show Steps pP.tables eE below (T1_.setTop (mkF mM 6 #[.val (.ref a), .val (.int p)] [(.double (f p))])) _
    exact retOut X1_ hx Bd.returns rfl (Or.inr (Or.inr (Or.inl ⟨rfl, rfl, _, rfl⟩))) (Jvm.hb hby own_d8_6) hr
  · show Q_rm_mass Z a p m f h0 n0 _ T1_.heap _
    rw [e1_]
    exact ⟨rfl, N0, rfl⟩
theorem own_d11_0 : decode prog_27_method_1_code 0 = .ok (.aload_n 0, 1) := by decide +kernel
theorem own_d11_1 : decode prog_27_method_1_code 1 = .ok (.invokespecial 1, 3) := by decide +kernel
theorem own_d11_4 : decode prog_27_method_1_code 4 = .ok (.aload_n 0, 1) := by decide +kernel
theorem own_d11_5 : decode prog_27_method_1_code 5 = .ok (.aload_n 1, 1) := by decide +kernel
theorem own_d11_6 : decode prog_27_method_1_code 6 = .ok (.putfield 7, 3) := by decide +kernel
theorem own_d11_9 : decode prog_27_method_1_code 9 = .ok (.aload_n 0, 1) := by decide +kernel
theorem own_d11_10 : decode prog_27_method_1_code 10 = .ok (.aload_n 2, 1) := by decide +kernel
theorem own_d11_11 : decode prog_27_method_1_code 11 = .ok (.putfield 13, 3) := by decide +kernel
theorem own_d11_14 : decode prog_27_method_1_code 14 = .ok (.aload_n 0, 1) := by decide +kernel
theorem own_d11_15 : decode prog_27_method_1_code 15 = .ok (.aload_n 3, 1) := by decide +kernel
theorem own_d11_16 : decode prog_27_method_1_code 16 = .ok (.putfield 17, 3) := by decide +kernel
theorem own_d11_19 : decode prog_27_method_1_code 19 = .ok (.return_, 1) := by decide +kernel
theorem own_pn_com_example_chains_to_rank_chainstorank_graph_Distribution : plainName "com/example/chains_to_rank/chainstorank/graph/Distribution" = true := by first | (simp [plainName, overriddenIn]; done) | decide +kernel
theorem own_ef_rm_di1 (mM : MethodId) (x0 : Addr) (x1 : Addr) (x2 : Addr) (x3 : Addr) : entryFrame mM #[(.ref x0), (.ref x1), (.ref x2), (.ref x3)] 4 = mkF mM 0 #[.val (.ref x0), .val (.ref x1), .val (.ref x2), .val (.ref x3)] [] := by first | (simp [entryFrame, mkF, argsToLocals, Value.category]; done) | rfl
def Q_rm_di1 (Z : State) (a : Addr) (u : Addr) (v : Addr) (w : Addr) (h0 : Heap) (n0 : Nat) (vV : Option Value) (hH : Heap) (lA : List Loc) : Prop := vV = none ∧ Fr n0 lA ∧ (Keep h0 hH [a]) ∧ (Exa Z hH a "com/example/chains_to_rank/chainstorank/graph/Distribution") ∧ (Fld Z hH a "com/example/chains_to_rank/chainstorank/graph/Distribution" "probabilities" "[D" (.ref v)) ∧ (Fld Z hH a "com/example/chains_to_rank/chainstorank/graph/Distribution" "errorBounds" "[D" (.ref w))
set_option maxRecDepth 65536 in
set_option maxHeartbeats 40000000 in
theorem rm_di1 (lL : Launch) (Z : State) (a0 : Array Value) (hw : ∀ d ∈ tables_1, d.before a0 Z = true) (ws : List Jvm.Cond) (a : Addr) (u : Addr) (v : Addr) (w : Addr) (h0 : Heap) (n0 : Nat) (Z0 : n0 ≤ h0.size) (Ea : Exa Z h0 a "com/example/chains_to_rank/chainstorank/graph/Distribution") (F0 : Fld Z h0 a "com/example/chains_to_rank/chainstorank/graph/Distribution" "entities" "[I" .null) (F1 : Fld Z h0 a "com/example/chains_to_rank/chainstorank/graph/Distribution" "probabilities" "[D" .null) (F2 : Fld Z h0 a "com/example/chains_to_rank/chainstorank/graph/Distribution" "errorBounds" "[D" .null) (ga : n0 ≤ a) :
    MetFree lL (⟨"com/example/chains_to_rank/chainstorank/graph/Distribution", "<init>", "([I[D[D)V"⟩ : MethodName) (head1 (Jvm.Cond.code (⟨"com/example/chains_to_rank/chainstorank/graph/Distribution", "<init>", "([I[D[D)V"⟩ : MethodName) prog_27_method_1_code 4 none :: ws) ({ frames := 1, cells := 0, slots := 0, locals := 12 } : Room)) (fun aA uU => aA = #[(.ref a), (.ref u), (.ref v), (.ref w)] ∧ Z.Warmed39 uU.vm ∧ uU.heap = h0) (fun _ _ _ _ _ => True) (fun _ uU oO uU' => ∃ vV lA, oO = .returned vV ∧ Q_rm_di1 Z a u v w h0 n0 vV uU'.heap lA ∧ FrameEnd uU oO uU' lA ({ frames := 1, cells := 0, slots := 0, locals := 12 } : Room).cells ({ frames := 1, cells := 0, slots := 0, locals := 12 } : Room).slots) := by
  refine MetFree.of_bodySF (plainFor_of_name own_pn_com_example_chains_to_rank_chainstorank_graph_Distribution) hisR ?_
  intro pP eE sS mM args below meth cC s₁ Bd hml0 hP hK
  obtain ⟨rfl, hZ, hh⟩ := hP
  have hx := Bd.exec
  have hby := Bd.bytes
  have hml : cC.maxLocals = 4 := hml0
  have hown : sS.vm.findClass "com/example/chains_to_rank/chainstorank/graph/Distribution" = some mM.cls := findClass_of_methodNamed Bd.named
  have hnm := (name_of_methodNamed Bd.named Bd.method).1
  have X0 : Stand pP lL eE ({ frames := 1, cells := 0, slots := 0, locals := 12 } : Room) sS mM #[(.ref a), (.ref u), (.ref v), (.ref w)] below meth cC s₁ [] 0 0 := Stand.of_body Bd
  have e0 : s₁.heap = h0 := by rw [← hh, Bd.state]; rfl
  have N0 := Fr.nil n0
  have K0 := Keep.refl h0 [a]
  show own_Fin pP eE below (fun tT oO => ∃ vV lA, oO = .returned vV ∧ Q_rm_di1 Z a u v w h0 n0 vV tT.heap lA ∧ FrameEnd sS oO tT lA ({ frames := 1, cells := 0, slots := 0, locals := 12 } : Room).cells ({ frames := 1, cells := 0, slots := 0, locals := 12 } : Room).slots) (s₁.setTop (entryFrame mM #[(.ref a), (.ref u), (.ref v), (.ref w)] 4))
  refine own_fin (b := s₁.setTop (mkF mM 0 #[.val (.ref a), .val (.ref u), .val (.ref v), .val (.ref w)] [])) (fun tT kK => castTop (own_ef_rm_di1 mM a u v w) kK) ?_
  refine own_fin (b := s₁.setTop (mkF mM 1 #[.val (.ref a), .val (.ref u), .val (.ref v), .val (.ref w)] [(.ref a)])) (fun tT kK => ?_) ?_
  · show Steps pP.tables eE below (s₁.setTop (mkF mM 0 #[.val (.ref a), .val (.ref u), .val (.ref v), .val (.ref w)] [])) tT
    refine XS.aloadN X0.here hx rfl (Jvm.hb hby own_d11_0) rfl rfl ?_
    show Steps pP.tables eE below (s₁.setTop (mkF mM 1 #[.val (.ref a), .val (.ref u), .val (.ref v), .val (.ref w)] [(.ref a)])) tT
    exact kK
  obtain ⟨T1_, X1_, e1_, st1_⟩ := initO X0 hx hZ hown (hw _ (List.mem_of_getElem? (i := 67) rfl)) (hw _ (List.mem_of_getElem? (i := 9) rfl)) (hw _ (List.mem_of_getElem? (i := 10) rfl)) e0 (g := (mkF mM 1 #[.val (.ref a), .val (.ref u), .val (.ref v), .val (.ref w)] [(.ref a)])) rfl (by rw [hml]; rfl) rfl (Jvm.hb hby own_d11_1) (by decide) (W := 0) (by show 2 * 0 + _ ≤ _; exact Nat.le_of_eq rfl) (by decide)
  refine own_fin st1_ ?_
  show own_Fin pP eE below _ (T1_.setTop (mkF mM 4 #[.val (.ref a), .val (.ref u), .val (.ref v), .val (.ref w)] []))
  refine own_fin (b := T1_.setTop (mkF mM 6 #[.val (.ref a), .val (.ref u), .val (.ref v), .val (.ref w)] [(.ref u), (.ref a)])) (fun tT kK => ?_) ?_
  · show Steps pP.tables eE below (T1_.setTop (mkF mM 4 #[.val (.ref a), .val (.ref u), .val (.ref v), .val (.ref w)] [])) tT
    refine XS.aloadN X1_.here hx rfl (Jvm.hb hby own_d11_4) rfl rfl ?_
    show Steps pP.tables eE below (T1_.setTop (mkF mM 5 #[.val (.ref a), .val (.ref u), .val (.ref v), .val (.ref w)] [(.ref a)])) tT
    refine XS.aloadN X1_.here hx rfl (Jvm.hb hby own_d11_5) rfl rfl ?_
    show Steps pP.tables eE below (T1_.setTop (mkF mM 6 #[.val (.ref a), .val (.ref u), .val (.ref v), .val (.ref w)] [(.ref u), (.ref a)])) tT
    exact kK
  obtain ⟨T2_, h2_, X2_, e2_, W2_, st2_⟩ := putF X1_ hx hZ hown (host := "") (Or.inl (hw _ (List.mem_of_getElem? (i := 68) rfl))) Via.refl e1_ F0 Ea (Or.inr ⟨(hw _ (List.mem_of_getElem? (i := 69) rfl)), rfl, hnm⟩) (hw _ (List.mem_of_getElem? (i := 57) rfl)) (ty := (.array .int)) (by decide) rfl rfl (g := (mkF mM 6 #[.val (.ref a), .val (.ref u), .val (.ref v), .val (.ref w)] [(.ref u), (.ref a)])) rfl rfl (Jvm.hb hby own_d11_6)
  have Fw2_ := F0.same W2_
  have fc3_ := Ea.wr W2_
  have fc4_ := F1.other W2_ (Or.inr (slot_ne (Or.inr (hw _ (List.mem_of_getElem? (i := 71) rfl))) (Or.inr (hw _ (List.mem_of_getElem? (i := 69) rfl))) (by decide) (t := (.array .double)) (t' := (.array .int)) (by decide) (by decide)))
  have fc5_ := F2.other W2_ (Or.inr (slot_ne (Or.inr (hw _ (List.mem_of_getElem? (i := 73) rfl))) (Or.inr (hw _ (List.mem_of_getElem? (i := 69) rfl))) (by decide) (t := (.array .double)) (t' := (.array .int)) (by decide) (by decide)))
  have K2_ := K0.wr W2_ (Or.inl (List.mem_of_getElem? (i := 0) rfl))
  have N2_ := Fr.snoc X2_ N0 ga
  refine own_fin st2_ ?_
  show own_Fin pP eE below _ (T2_.setTop (mkF mM 9 #[.val (.ref a), .val (.ref u), .val (.ref v), .val (.ref w)] []))
  refine own_fin (b := T2_.setTop (mkF mM 11 #[.val (.ref a), .val (.ref u), .val (.ref v), .val (.ref w)] [(.ref v), (.ref a)])) (fun tT kK => ?_) ?_
  · show Steps pP.tables eE below (T2_.setTop (mkF mM 9 #[.val (.ref a), .val (.ref u), .val (.ref v), .val (.ref w)] [])) tT
    refine XS.aloadN X2_.here hx rfl (Jvm.hb hby own_d11_9) rfl rfl ?_
    show Steps pP.tables eE below (T2_.setTop (mkF mM 10 #[.val (.ref a), .val (.ref u), .val (.ref v), .val (.ref w)] [(.ref a)])) tT
    refine XS.aloadN X2_.here hx rfl (Jvm.hb hby own_d11_10) rfl rfl ?_
    show Steps pP.tables eE below (T2_.setTop (mkF mM 11 #[.val (.ref a), .val (.ref u), .val (.ref v), .val (.ref w)] [(.ref v), (.ref a)])) tT
    exact kK
  obtain ⟨T6_, h6_, X6_, e6_, W6_, st6_⟩ := putF X2_ hx hZ hown (host := "") (Or.inl (hw _ (List.mem_of_getElem? (i := 70) rfl))) Via.refl e2_ fc4_ fc3_ (Or.inr ⟨(hw _ (List.mem_of_getElem? (i := 71) rfl)), rfl, hnm⟩) (hw _ (List.mem_of_getElem? (i := 57) rfl)) (ty := (.array .double)) (by decide) rfl rfl (g := (mkF mM 11 #[.val (.ref a), .val (.ref u), .val (.ref v), .val (.ref w)] [(.ref v), (.ref a)])) rfl rfl (Jvm.hb hby own_d11_11)
  have Fw6_ := fc4_.same W6_
  have fc7_ := fc3_.wr W6_
  have fc8_ := Fw2_.other W6_ (Or.inr (slot_ne (Or.inr (hw _ (List.mem_of_getElem? (i := 69) rfl))) (Or.inr (hw _ (List.mem_of_getElem? (i := 71) rfl))) (by decide) (t := (.array .int)) (t' := (.array .double)) (by decide) (by decide)))
  have fc9_ := fc5_.other W6_ (Or.inr (slot_ne (Or.inr (hw _ (List.mem_of_getElem? (i := 73) rfl))) (Or.inr (hw _ (List.mem_of_getElem? (i := 71) rfl))) (by decide) (t := (.array .double)) (t' := (.array .double)) (by decide) (by decide)))
  have K6_ := K2_.wr W6_ (Or.inl (List.mem_of_getElem? (i := 0) rfl))
  have N6_ := Fr.snoc X6_ N2_ ga
  refine own_fin st6_ ?_
  show own_Fin pP eE below _ (T6_.setTop (mkF mM 14 #[.val (.ref a), .val (.ref u), .val (.ref v), .val (.ref w)] []))
  refine own_fin (b := T6_.setTop (mkF mM 16 #[.val (.ref a), .val (.ref u), .val (.ref v), .val (.ref w)] [(.ref w), (.ref a)])) (fun tT kK => ?_) ?_
  · show Steps pP.tables eE below (T6_.setTop (mkF mM 14 #[.val (.ref a), .val (.ref u), .val (.ref v), .val (.ref w)] [])) tT
    refine XS.aloadN X6_.here hx rfl (Jvm.hb hby own_d11_14) rfl rfl ?_
    show Steps pP.tables eE below (T6_.setTop (mkF mM 15 #[.val (.ref a), .val (.ref u), .val (.ref v), .val (.ref w)] [(.ref a)])) tT
    refine XS.aloadN X6_.here hx rfl (Jvm.hb hby own_d11_15) rfl rfl ?_
    show Steps pP.tables eE below (T6_.setTop (mkF mM 16 #[.val (.ref a), .val (.ref u), .val (.ref v), .val (.ref w)] [(.ref w), (.ref a)])) tT
    exact kK
  obtain ⟨T10_, h10_, X10_, e10_, W10_, st10_⟩ := putF X6_ hx hZ hown (host := "") (Or.inl (hw _ (List.mem_of_getElem? (i := 72) rfl))) Via.refl e6_ fc9_ fc7_ (Or.inr ⟨(hw _ (List.mem_of_getElem? (i := 73) rfl)), rfl, hnm⟩) (hw _ (List.mem_of_getElem? (i := 57) rfl)) (ty := (.array .double)) (by decide) rfl rfl (g := (mkF mM 16 #[.val (.ref a), .val (.ref u), .val (.ref v), .val (.ref w)] [(.ref w), (.ref a)])) rfl rfl (Jvm.hb hby own_d11_16)
  have Fw10_ := fc9_.same W10_
  have fc11_ := fc7_.wr W10_
  have fc12_ := fc8_.other W10_ (Or.inr (slot_ne (Or.inr (hw _ (List.mem_of_getElem? (i := 69) rfl))) (Or.inr (hw _ (List.mem_of_getElem? (i := 73) rfl))) (by decide) (t := (.array .int)) (t' := (.array .double)) (by decide) (by decide)))
  have fc13_ := Fw6_.other W10_ (Or.inr (slot_ne (Or.inr (hw _ (List.mem_of_getElem? (i := 71) rfl))) (Or.inr (hw _ (List.mem_of_getElem? (i := 73) rfl))) (by decide) (t := (.array .double)) (t' := (.array .double)) (by decide) (by decide)))
  have K10_ := K6_.wr W10_ (Or.inl (List.mem_of_getElem? (i := 0) rfl))
  have N10_ := Fr.snoc X10_ N6_ ga
  refine own_fin st10_ ?_
  show own_Fin pP eE below _ (T10_.setTop (mkF mM 19 #[.val (.ref a), .val (.ref u), .val (.ref v), .val (.ref w)] []))
  obtain ⟨fs, hr, hrun, hended, hW, hsame⟩ := X10_.leave (v := none) (fun _ => rfl)
  refine ⟨_, _, ?_, hrun, hended, _, _, rfl, ?_, ⟨_, rfl⟩, hW, hsame.mono (by decide) (by decide)⟩
  · show Steps pP.tables eE below (T10_.setTop (mkF mM 19 #[.val (.ref a), .val (.ref u), .val (.ref v), .val (.ref w)] [])) _
    exact X10_.returnOut hx Bd.returns (Jvm.hb hby own_d11_19) hr
  · show Q_rm_di1 Z a u v w h0 n0 _ T10_.heap _
    rw [e10_]
    exact ⟨rfl, N10_, K10_, fc11_, fc13_, Fw10_⟩
theorem own_d10_0 : decode prog_27_method_2_code 0 = .ok (.aload_n 0, 1) := by decide +kernel
theorem own_d10_1 : decode prog_27_method_2_code 1 = .ok (.aload_n 1, 1) := by decide +kernel
theorem own_d10_2 : decode prog_27_method_2_code 2 = .ok (.aload_n 2, 1) := by decide +kernel
theorem own_d10_3 : decode prog_27_method_2_code 3 = .ok (.aload_n 2, 1) := by decide +kernel
theorem own_d10_4 : decode prog_27_method_2_code 4 = .ok (.arraylength, 1) := by decide +kernel
theorem own_d10_5 : decode prog_27_method_2_code 5 = .ok (.newarray .double, 2) := by decide +kernel
theorem own_d10_7 : decode prog_27_method_2_code 7 = .ok (.invokespecial 20, 3) := by decide +kernel
theorem own_pd2 : parseMethodDescriptor "([I[D[D)V" = some ⟨[(.array .int), (.array .double), (.array .double)], none⟩ := by decide +kernel
theorem own_d10_10 : decode prog_27_method_2_code 10 = .ok (.iconst 0, 1) := by decide +kernel
theorem own_d10_11 : decode prog_27_method_2_code 11 = .ok (.istore 7, 2) := by decide +kernel
theorem own_d10_13 : decode prog_27_method_2_code 13 = .ok (.iload 7, 2) := by decide +kernel
theorem own_d10_15 : decode prog_27_method_2_code 15 = .ok (.aload_n 2, 1) := by decide +kernel
theorem own_d10_16 : decode prog_27_method_2_code 16 = .ok (.arraylength, 1) := by decide +kernel
theorem own_d10_17 : decode prog_27_method_2_code 17 = .ok (.if_icmp .ge 25, 3) := by decide +kernel
theorem own_d10_20 : decode prog_27_method_2_code 20 = .ok (.aload_n 0, 1) := by decide +kernel
theorem own_d10_21 : decode prog_27_method_2_code 21 = .ok (.getfield 17, 3) := by decide +kernel
theorem own_d10_24 : decode prog_27_method_2_code 24 = .ok (.iload 7, 2) := by decide +kernel
theorem own_d10_26 : decode prog_27_method_2_code 26 = .ok (.aload_n 2, 1) := by decide +kernel
theorem own_d10_27 : decode prog_27_method_2_code 27 = .ok (.iload 7, 2) := by decide +kernel
theorem own_d10_29 : decode prog_27_method_2_code 29 = .ok (.daload, 1) := by decide +kernel
theorem own_d10_30 : decode prog_27_method_2_code 30 = .ok (.dload_n 3, 1) := by decide +kernel
theorem own_d10_31 : decode prog_27_method_2_code 31 = .ok (.dmul, 1) := by decide +kernel
theorem own_d10_32 : decode prog_27_method_2_code 32 = .ok (.dload 5, 2) := by decide +kernel
theorem own_d10_34 : decode prog_27_method_2_code 34 = .ok (.dadd, 1) := by decide +kernel
theorem own_d10_35 : decode prog_27_method_2_code 35 = .ok (.dastore, 1) := by decide +kernel
theorem own_d10_36 : decode prog_27_method_2_code 36 = .ok (.iinc 7 1, 3) := by decide +kernel
theorem own_d10_39 : decode prog_27_method_2_code 39 = .ok (.goto (-26), 3) := by decide +kernel
theorem own_d10_42 : decode prog_27_method_2_code 42 = .ok (.return_, 1) := by decide +kernel
theorem own_ef_rm_di2 (mM : MethodId) (x0 : Addr) (x1 : Addr) (x2 : Addr) (x3 : UInt64) (x4 : UInt64) : entryFrame mM #[(.ref x0), (.ref x1), (.ref x2), (.double x3), (.double x4)] 8 = mkF mM 0 #[.val (.ref x0), .val (.ref x1), .val (.ref x2), .val (.double x3), .second, .val (.double x4), .second, .unset] [] := by first | (simp [entryFrame, mkF, argsToLocals, Value.category]; done) | rfl
def Q_rm_di2 (Z : State) (a : Addr) (u : Addr) (v : Addr) (x : UInt64) (h0 : Heap) (n0 : Nat) (vV : Option Value) (hH : Heap) (lA : List Loc) : Prop := ∃ b : Addr, vV = none ∧ Fr n0 lA ∧ (Keep h0 hH [a]) ∧ (h0.size ≤ b) ∧ (Exa Z hH a "com/example/chains_to_rank/chainstorank/graph/Distribution") ∧ (Fld Z hH a "com/example/chains_to_rank/chainstorank/graph/Distribution" "probabilities" "[D" (.ref v)) ∧ (Fld Z hH a "com/example/chains_to_rank/chainstorank/graph/Distribution" "errorBounds" "[D" (.ref b)) ∧ (own_TD Z hH v (1 : Int32) (own_upD (fun _ => (0 : UInt64)) (0 : Int32) x)) ∧ (own_TD Z hH b (1 : Int32) (own_upD (fun _ => (0 : UInt64)) (0 : Int32) (FP.dadd (FP.dmul x (4377498837804122112 : UInt64)) (4503599627370496 : UInt64))))
set_option maxRecDepth 65536 in
set_option maxHeartbeats 40000000 in
theorem rm_di2 (lL : Launch) (Z : State) (a0 : Array Value) (hw : ∀ d ∈ tables_1, d.before a0 Z = true) (ws : List Jvm.Cond) (a : Addr) (u : Addr) (v : Addr) (x : UInt64) (h0 : Heap) (n0 : Nat) (Z0 : n0 ≤ h0.size) (Ea : Exa Z h0 a "com/example/chains_to_rank/chainstorank/graph/Distribution") (F0 : Fld Z h0 a "com/example/chains_to_rank/chainstorank/graph/Distribution" "entities" "[I" .null) (F1 : Fld Z h0 a "com/example/chains_to_rank/chainstorank/graph/Distribution" "probabilities" "[D" .null) (F2 : Fld Z h0 a "com/example/chains_to_rank/chainstorank/graph/Distribution" "errorBounds" "[D" .null) (ga : n0 ≤ a) (Tv : own_TD Z h0 v (1 : Int32) (own_upD (fun _ => (0 : UInt64)) (0 : Int32) x)) (nva : v ≠ a) (n1 : NoNaN64 (FP.dmul x (4377498837804122112 : UInt64))) (n2 : NoNaN64 (FP.dadd (FP.dmul x (4377498837804122112 : UInt64)) (4503599627370496 : UInt64))) :
    MetFree lL (⟨"com/example/chains_to_rank/chainstorank/graph/Distribution", "<init>", "([I[DDD)V"⟩ : MethodName) (head1 (Jvm.Cond.code (⟨"com/example/chains_to_rank/chainstorank/graph/Distribution", "<init>", "([I[DDD)V"⟩ : MethodName) prog_27_method_2_code 8 none :: ws) ({ frames := 2, cells := 1, slots := 1, locals := 27 } : Room)) (fun aA uU => aA = #[(.ref a), (.ref u), (.ref v), (.double (4377498837804122112 : UInt64)), (.double (4503599627370496 : UInt64))] ∧ Z.Warmed39 uU.vm ∧ uU.heap = h0) (fun _ _ _ _ _ => True) (fun _ uU oO uU' => ∃ vV lA, oO = .returned vV ∧ Q_rm_di2 Z a u v x h0 n0 vV uU'.heap lA ∧ FrameEnd uU oO uU' lA ({ frames := 2, cells := 1, slots := 1, locals := 27 } : Room).cells ({ frames := 2, cells := 1, slots := 1, locals := 27 } : Room).slots) := by
  refine MetFree.of_bodySF (plainFor_of_name own_pn_com_example_chains_to_rank_chainstorank_graph_Distribution) hisR ?_
  intro pP eE sS mM args below meth cC s₁ Bd hml0 hP hK
  obtain ⟨rfl, hZ, hh⟩ := hP
  have hx := Bd.exec
  have hby := Bd.bytes
  have hml : cC.maxLocals = 8 := hml0
  have hown : sS.vm.findClass "com/example/chains_to_rank/chainstorank/graph/Distribution" = some mM.cls := findClass_of_methodNamed Bd.named
  have hnm := (name_of_methodNamed Bd.named Bd.method).1
  have X0 : Stand pP lL eE ({ frames := 2, cells := 1, slots := 1, locals := 27 } : Room) sS mM #[(.ref a), (.ref u), (.ref v), (.double (4377498837804122112 : UInt64)), (.double (4503599627370496 : UInt64))] below meth cC s₁ [] 0 0 := Stand.of_body Bd
  have e0 : s₁.heap = h0 := by rw [← hh, Bd.state]; rfl
  have N0 := Fr.nil n0
  have K0 := Keep.refl h0 [a]
  show own_Fin pP eE below (fun tT oO => ∃ vV lA, oO = .returned vV ∧ Q_rm_di2 Z a u v x h0 n0 vV tT.heap lA ∧ FrameEnd sS oO tT lA ({ frames := 2, cells := 1, slots := 1, locals := 27 } : Room).cells ({ frames := 2, cells := 1, slots := 1, locals := 27 } : Room).slots) (s₁.setTop (entryFrame mM #[(.ref a), (.ref u), (.ref v), (.double (4377498837804122112 : UInt64)), (.double (4503599627370496 : UInt64))] 8))
  refine own_fin (b := s₁.setTop (mkF mM 0 #[.val (.ref a), .val (.ref u), .val (.ref v), .val (.double (4377498837804122112 : UInt64)), .second, .val (.double (4503599627370496 : UInt64)), .second, .unset] [])) (fun tT kK => castTop (own_ef_rm_di2 mM a u v (4377498837804122112 : UInt64) (4503599627370496 : UInt64)) kK) ?_
  refine own_fin (b := s₁.setTop (mkF mM 4 #[.val (.ref a), .val (.ref u), .val (.ref v), .val (.double (4377498837804122112 : UInt64)), .second, .val (.double (4503599627370496 : UInt64)), .second, .unset] [(.ref v), (.ref v), (.ref u), (.ref a)])) (fun tT kK => ?_) ?_
  · show Steps pP.tables eE below (s₁.setTop (mkF mM 0 #[.val (.ref a), .val (.ref u), .val (.ref v), .val (.double (4377498837804122112 : UInt64)), .second, .val (.double (4503599627370496 : UInt64)), .second, .unset] [])) tT
    refine XS.aloadN X0.here hx rfl (Jvm.hb hby own_d10_0) rfl rfl ?_
    show Steps pP.tables eE below (s₁.setTop (mkF mM 1 #[.val (.ref a), .val (.ref u), .val (.ref v), .val (.double (4377498837804122112 : UInt64)), .second, .val (.double (4503599627370496 : UInt64)), .second, .unset] [(.ref a)])) tT
    refine XS.aloadN X0.here hx rfl (Jvm.hb hby own_d10_1) rfl rfl ?_
    show Steps pP.tables eE below (s₁.setTop (mkF mM 2 #[.val (.ref a), .val (.ref u), .val (.ref v), .val (.double (4377498837804122112 : UInt64)), .second, .val (.double (4503599627370496 : UInt64)), .second, .unset] [(.ref u), (.ref a)])) tT
    refine XS.aloadN X0.here hx rfl (Jvm.hb hby own_d10_2) rfl rfl ?_
    show Steps pP.tables eE below (s₁.setTop (mkF mM 3 #[.val (.ref a), .val (.ref u), .val (.ref v), .val (.double (4377498837804122112 : UInt64)), .second, .val (.double (4503599627370496 : UInt64)), .second, .unset] [(.ref v), (.ref u), (.ref a)])) tT
    refine XS.aloadN X0.here hx rfl (Jvm.hb hby own_d10_3) rfl rfl ?_
    show Steps pP.tables eE below (s₁.setTop (mkF mM 4 #[.val (.ref a), .val (.ref u), .val (.ref v), .val (.double (4377498837804122112 : UInt64)), .second, .val (.double (4503599627370496 : UInt64)), .second, .unset] [(.ref v), (.ref v), (.ref u), (.ref a)])) tT
    exact kK
  obtain ⟨cl1_, Ar1_, Sz1_, Nn1_, -⟩ := id Tv
  refine own_fin (b := s₁.setTop (mkF mM 5 #[.val (.ref a), .val (.ref u), .val (.ref v), .val (.double (4377498837804122112 : UInt64)), .second, .val (.double (4503599627370496 : UInt64)), .second, .unset] [(.int (1 : Int32)), (.ref v), (.ref u), (.ref a)])) (fun tT kK => ?_) ?_
  · show Steps pP.tables eE below (s₁.setTop (mkF mM 4 #[.val (.ref a), .val (.ref u), .val (.ref v), .val (.double (4377498837804122112 : UInt64)), .second, .val (.double (4503599627370496 : UInt64)), .second, .unset] [(.ref v), (.ref v), (.ref u), (.ref a)])) tT
    refine X0.arraylength hx (own_rw e0 Ar1_.1) (State.isArrayOf_alike hZ.alike Ar1_.2.1) (g := (mkF mM 4 #[.val (.ref a), .val (.ref u), .val (.ref v), .val (.double (4377498837804122112 : UInt64)), .second, .val (.double (4503599627370496 : UInt64)), .second, .unset] [(.ref v), (.ref v), (.ref u), (.ref a)])) rfl rfl (Jvm.hb hby own_d10_4) _ ?_
    rw [len_of Sz1_ Nn1_]
    show Steps pP.tables eE below (s₁.setTop (mkF mM 5 #[.val (.ref a), .val (.ref u), .val (.ref v), .val (.double (4377498837804122112 : UInt64)), .second, .val (.double (4503599627370496 : UInt64)), .second, .unset] [(.int (1 : Int32)), (.ref v), (.ref u), (.ref a)])) tT
    exact kK
  obtain ⟨T2_, h2_, k2_, X2_, e2_, E2_, A2_, st2_⟩ := newP X0 hx hZ (hw _ (List.mem_of_getElem? (i := 11) rfl)) e0 (g := (mkF mM 5 #[.val (.ref a), .val (.ref u), .val (.ref v), .val (.double (4377498837804122112 : UInt64)), .second, .val (.double (4503599627370496 : UInt64)), .second, .unset] [(.int (1 : Int32)), (.ref v), (.ref u), (.ref a)])) rfl (Jvm.hb hby own_d10_5) rfl (by decide) (cap := 1) (by decide) (by decide) (by decide) (by decide)
  obtain ⟨b2_, g2_⟩ : ∃ z, z = h0.size := ⟨_, rfl⟩
  rw [← g2_] at A2_ st2_
  have sz_b2_ : h0.size ≤ b2_ := Nat.le_trans K0.1 (Nat.le_of_eq g2_.symm)
  have ge_b2_ : n0 ≤ b2_ := Nat.le_trans Z0 sz_b2_
  have ne3_ : a ≠ b2_ := Nat.ne_of_lt (Nat.lt_of_lt_of_le Ea.lt (Nat.le_of_eq g2_.symm))
  have ne4_ : v ≠ b2_ := Nat.ne_of_lt (Nat.lt_of_lt_of_le Tv.lt (Nat.le_of_eq g2_.symm))
  have fc5_ := Ea.ext E2_
  have fc6_ := F0.ext E2_
  have fc7_ := F1.ext E2_
  have fc8_ := F2.ext E2_
  have fc9_ := Tv.ext E2_
  have K2_ := K0.ext E2_
  have V2_ : own_TD Z h2_ b2_ (1 : Int32) (fun _ => (0 : UInt64)) := own_TD.new A2_ (by decide)
  refine own_fin st2_ ?_
  show own_Fin pP eE below _ (T2_.setTop (mkF mM 7 #[.val (.ref a), .val (.ref u), .val (.ref v), .val (.double (4377498837804122112 : UInt64)), .second, .val (.double (4503599627370496 : UInt64)), .second, .unset] [(.ref b2_), (.ref v), (.ref u), (.ref a)]))
  obtain ⟨_, _, ⟨T10_, L10_, k10_, n10_⟩, -, X10_, ⟨Lc10_, hQ10_, l10_, y10_, z10_⟩, st10_⟩ := X2_.specialBack hx (y := (⟨"com/example/chains_to_rank/chainstorank/graph/Distribution", "<init>", "([I[D[D)V"⟩ : MethodName)) rfl hown (mvT hZ (hw _ (List.mem_of_getElem? (i := 64) rfl))) (mvT hZ (hw _ (List.mem_of_getElem? (i := 65) rfl))) (mvT hZ (hw _ (List.mem_of_getElem? (i := 66) rfl))) (by decide) (backOf (W := 0) (rm_di1 lL Z a0 hw [] a u v b2_ h2_ n0 (Nat.le_trans Z0 K2_.1) fc5_ fc6_ fc7_ fc8_ ga) hZ (hw _ (List.mem_of_getElem? (i := 66) rfl)) (hw _ (List.mem_of_getElem? (i := 58) rfl)) (by decide) (by decide)) (g := (mkF mM 7 #[.val (.ref a), .val (.ref u), .val (.ref v), .val (.double (4377498837804122112 : UInt64)), .second, .val (.double (4503599627370496 : UInt64)), .second, .unset] [(.ref b2_), (.ref v), (.ref u), (.ref a)])) rfl (by rw [hml]; rfl) (Steps.refl _) (a := a) (argsL := [(.ref u), (.ref v), (.ref b2_)]) (rest := []) (lenOf own_pd2 rfl) rfl (by show 2 * 0 + _ ≤ _; exact Nat.le_of_eq rfl) (Jvm.hb hby own_d10_7) (fun _ _ => ⟨rfl, e2_, (by decide : 1 + 0 ≤ _), (by decide : 1 + 0 ≤ _)⟩)
  dsimp only [Pt.U, Pt.locs, Pt.cells, Pt.slots] at X10_ l10_ y10_ z10_ st10_ hQ10_
  subst l10_ y10_ z10_
  obtain ⟨rfl, N10_q, p10__0, p10__1, p10__2, p10__3⟩ := hQ10_
  have N10_ := Fr.app N0 N10_q
  have fc11_ := fc5_.keep p10__0
  have fc12_ := fc9_.keep p10__0 (ninS nva nin0)
  have fc13_ := V2_.keep p10__0 (ninS (Ne.symm ne3_) nin0)
  have K10_ := K2_.trans p10__0 (allS (Or.inl (List.mem_of_getElem? (i := 0) rfl)) all0)
  refine own_fin (fun tT kK => st10_.trans kK) ?_
  show own_Fin pP eE below _ (T10_.setTop (mkF mM 10 #[.val (.ref a), .val (.ref u), .val (.ref v), .val (.double (4377498837804122112 : UInt64)), .second, .val (.double (4503599627370496 : UInt64)), .second, .unset] []))
  refine own_fin (b := T10_.setTop (mkF mM 16 #[.val (.ref a), .val (.ref u), .val (.ref v), .val (.double (4377498837804122112 : UInt64)), .second, .val (.double (4503599627370496 : UInt64)), .second, .val (.int (0 : Int32))] [(.ref v), (.int (0 : Int32))])) (fun tT kK => ?_) ?_
  · show Steps pP.tables eE below (T10_.setTop (mkF mM 10 #[.val (.ref a), .val (.ref u), .val (.ref v), .val (.double (4377498837804122112 : UInt64)), .second, .val (.double (4503599627370496 : UInt64)), .second, .unset] [])) tT
    refine XS.iconst X10_.here hx rfl (Jvm.hb hby own_d10_10) ?_
    show Steps pP.tables eE below (T10_.setTop (mkF mM 11 #[.val (.ref a), .val (.ref u), .val (.ref v), .val (.double (4377498837804122112 : UInt64)), .second, .val (.double (4503599627370496 : UInt64)), .second, .unset] [(.int (0 : Int32))])) tT
    refine XS.istore X10_.here hx rfl (Jvm.hb hby own_d10_11) rfl (l' := #[.val (.ref a), .val (.ref u), .val (.ref v), .val (.double (4377498837804122112 : UInt64)), .second, .val (.double (4503599627370496 : UInt64)), .second, .val (.int (0 : Int32))]) rfl ?_
    show Steps pP.tables eE below (T10_.setTop (mkF mM 13 #[.val (.ref a), .val (.ref u), .val (.ref v), .val (.double (4377498837804122112 : UInt64)), .second, .val (.double (4503599627370496 : UInt64)), .second, .val (.int (0 : Int32))] [])) tT
    refine XS.iload X10_.here hx rfl (Jvm.hb hby own_d10_13) rfl ?_
    show Steps pP.tables eE below (T10_.setTop (mkF mM 15 #[.val (.ref a), .val (.ref u), .val (.ref v), .val (.double (4377498837804122112 : UInt64)), .second, .val (.double (4503599627370496 : UInt64)), .second, .val (.int (0 : Int32))] [(.int (0 : Int32))])) tT
    refine XS.aloadN X10_.here hx rfl (Jvm.hb hby own_d10_15) rfl rfl ?_
    show Steps pP.tables eE below (T10_.setTop (mkF mM 16 #[.val (.ref a), .val (.ref u), .val (.ref v), .val (.double (4377498837804122112 : UInt64)), .second, .val (.double (4503599627370496 : UInt64)), .second, .val (.int (0 : Int32))] [(.ref v), (.int (0 : Int32))])) tT
    exact kK
  obtain ⟨cl14_, Ar14_, Sz14_, Nn14_, -⟩ := id fc12_
  refine own_fin (b := T10_.setTop (mkF mM 21 #[.val (.ref a), .val (.ref u), .val (.ref v), .val (.double (4377498837804122112 : UInt64)), .second, .val (.double (4503599627370496 : UInt64)), .second, .val (.int (0 : Int32))] [(.ref a)])) (fun tT kK => ?_) ?_
  · show Steps pP.tables eE below (T10_.setTop (mkF mM 16 #[.val (.ref a), .val (.ref u), .val (.ref v), .val (.double (4377498837804122112 : UInt64)), .second, .val (.double (4503599627370496 : UInt64)), .second, .val (.int (0 : Int32))] [(.ref v), (.int (0 : Int32))])) tT
    refine X10_.arraylength hx (own_rw rfl Ar14_.1) (State.isArrayOf_alike hZ.alike Ar14_.2.1) (g := (mkF mM 16 #[.val (.ref a), .val (.ref u), .val (.ref v), .val (.double (4377498837804122112 : UInt64)), .second, .val (.double (4503599627370496 : UInt64)), .second, .val (.int (0 : Int32))] [(.ref v), (.int (0 : Int32))])) rfl rfl (Jvm.hb hby own_d10_16) _ ?_
    rw [len_of Sz14_ Nn14_]
    show Steps pP.tables eE below (T10_.setTop (mkF mM 17 #[.val (.ref a), .val (.ref u), .val (.ref v), .val (.double (4377498837804122112 : UInt64)), .second, .val (.double (4503599627370496 : UInt64)), .second, .val (.int (0 : Int32))] [(.int (1 : Int32)), (.int (0 : Int32))])) tT
    refine XS.icmpNo X10_.here hx rfl (Jvm.hb hby own_d10_17) rfl (tlt ((by decide) : (0 : Int32) < (1 : Int32))).2.1 ?_
    show Steps pP.tables eE below (T10_.setTop (mkF mM 20 #[.val (.ref a), .val (.ref u), .val (.ref v), .val (.double (4377498837804122112 : UInt64)), .second, .val (.double (4503599627370496 : UInt64)), .second, .val (.int (0 : Int32))] [])) tT
    refine XS.aloadN X10_.here hx rfl (Jvm.hb hby own_d10_20) rfl rfl ?_
    show Steps pP.tables eE below (T10_.setTop (mkF mM 21 #[.val (.ref a), .val (.ref u), .val (.ref v), .val (.double (4377498837804122112 : UInt64)), .second, .val (.double (4503599627370496 : UInt64)), .second, .val (.int (0 : Int32))] [(.ref a)])) tT
    exact kK
  obtain ⟨T15_, X15_, e15_, st15_⟩ := getF X10_ hx hZ hown (host := "") (Or.inl (hw _ (List.mem_of_getElem? (i := 72) rfl))) Via.refl rfl p10__3 (g := (mkF mM 21 #[.val (.ref a), .val (.ref u), .val (.ref v), .val (.double (4377498837804122112 : UInt64)), .second, .val (.double (4503599627370496 : UInt64)), .second, .val (.int (0 : Int32))] [(.ref a)])) rfl rfl (Jvm.hb hby own_d10_21)
  refine own_fin st15_ ?_
  show own_Fin pP eE below _ (T15_.setTop (mkF mM 24 #[.val (.ref a), .val (.ref u), .val (.ref v), .val (.double (4377498837804122112 : UInt64)), .second, .val (.double (4503599627370496 : UInt64)), .second, .val (.int (0 : Int32))] [(.ref b2_)]))
  refine own_fin (b := T15_.setTop (mkF mM 29 #[.val (.ref a), .val (.ref u), .val (.ref v), .val (.double (4377498837804122112 : UInt64)), .second, .val (.double (4503599627370496 : UInt64)), .second, .val (.int (0 : Int32))] [(.int (0 : Int32)), (.ref v), (.int (0 : Int32)), (.ref b2_)])) (fun tT kK => ?_) ?_
  · show Steps pP.tables eE below (T15_.setTop (mkF mM 24 #[.val (.ref a), .val (.ref u), .val (.ref v), .val (.double (4377498837804122112 : UInt64)), .second, .val (.double (4503599627370496 : UInt64)), .second, .val (.int (0 : Int32))] [(.ref b2_)])) tT
    refine XS.iload X15_.here hx rfl (Jvm.hb hby own_d10_24) rfl ?_
    show Steps pP.tables eE below (T15_.setTop (mkF mM 26 #[.val (.ref a), .val (.ref u), .val (.ref v), .val (.double (4377498837804122112 : UInt64)), .second, .val (.double (4503599627370496 : UInt64)), .second, .val (.int (0 : Int32))] [(.int (0 : Int32)), (.ref b2_)])) tT
    refine XS.aloadN X15_.here hx rfl (Jvm.hb hby own_d10_26) rfl rfl ?_
    show Steps pP.tables eE below (T15_.setTop (mkF mM 27 #[.val (.ref a), .val (.ref u), .val (.ref v), .val (.double (4377498837804122112 : UInt64)), .second, .val (.double (4503599627370496 : UInt64)), .second, .val (.int (0 : Int32))] [(.ref v), (.int (0 : Int32)), (.ref b2_)])) tT
    refine XS.iload X15_.here hx rfl (Jvm.hb hby own_d10_27) rfl ?_
    show Steps pP.tables eE below (T15_.setTop (mkF mM 29 #[.val (.ref a), .val (.ref u), .val (.ref v), .val (.double (4377498837804122112 : UInt64)), .second, .val (.double (4503599627370496 : UInt64)), .second, .val (.int (0 : Int32))] [(.int (0 : Int32)), (.ref v), (.int (0 : Int32)), (.ref b2_)])) tT
    exact kK
  obtain ⟨cl16_, Ar16_, Sz16_, Nn16_, Hh16_⟩ := id fc12_
  have hin16_ : ¬ ((0 : Int32) < 0 ∨ cl16_.slots.size ≤ ((0 : Int32)).toNatClampNeg) := inb_of Sz16_ ⟨by decide, by decide⟩
  have hat16_ : cl16_.slots[((0 : Int32)).toNatClampNeg]? = some (.double ((own_upD (fun _ => (0 : UInt64)) (0 : Int32) x) (0 : Int32))) := Hh16_ _ hin16_
  refine own_fin (b := T15_.setTop (mkF mM 35 #[.val (.ref a), .val (.ref u), .val (.ref v), .val (.double (4377498837804122112 : UInt64)), .second, .val (.double (4503599627370496 : UInt64)), .second, .val (.int (0 : Int32))] [(.double (FP.dadd (FP.dmul x (4377498837804122112 : UInt64)) (4503599627370496 : UInt64))), (.int (0 : Int32)), (.ref b2_)])) (fun tT kK => ?_) ?_
  · show Steps pP.tables eE below (T15_.setTop (mkF mM 29 #[.val (.ref a), .val (.ref u), .val (.ref v), .val (.double (4377498837804122112 : UInt64)), .second, .val (.double (4503599627370496 : UInt64)), .second, .val (.int (0 : Int32))] [(.int (0 : Int32)), (.ref v), (.int (0 : Int32)), (.ref b2_)])) tT
    refine X15_.daload hx (j := (0 : Int32)) (v := (.double ((own_upD (fun _ => (0 : UInt64)) (0 : Int32) x) (0 : Int32)))) (own_rw e15_ Ar16_.1) (State.isArrayOf_alike hZ.alike Ar16_.2.1) Ar16_.2.2 hin16_ hat16_ (g := (mkF mM 29 #[.val (.ref a), .val (.ref u), .val (.ref v), .val (.double (4377498837804122112 : UInt64)), .second, .val (.double (4503599627370496 : UInt64)), .second, .val (.int (0 : Int32))] [(.int (0 : Int32)), (.ref v), (.int (0 : Int32)), (.ref b2_)])) rfl rfl (Jvm.hb hby own_d10_29) _ ?_
    show Steps pP.tables eE below (T15_.setTop (mkF mM 30 #[.val (.ref a), .val (.ref u), .val (.ref v), .val (.double (4377498837804122112 : UInt64)), .second, .val (.double (4503599627370496 : UInt64)), .second, .val (.int (0 : Int32))] [(.double ((own_upD (fun _ => (0 : UInt64)) (0 : Int32) x) (0 : Int32))), (.int (0 : Int32)), (.ref b2_)])) tT
    refine XS.dloadN X15_.here hx rfl (Jvm.hb hby own_d10_30) rfl ?_
    show Steps pP.tables eE below (T15_.setTop (mkF mM 31 #[.val (.ref a), .val (.ref u), .val (.ref v), .val (.double (4377498837804122112 : UInt64)), .second, .val (.double (4503599627370496 : UInt64)), .second, .val (.int (0 : Int32))] [(.double (4377498837804122112 : UInt64)), (.double ((own_upD (fun _ => (0 : UInt64)) (0 : Int32) x) (0 : Int32))), (.int (0 : Int32)), (.ref b2_)])) tT
    refine XS.dmulS X15_.here hx rfl (Jvm.hb hby own_d10_31) rfl n1 (v := (FP.dmul x (4377498837804122112 : UInt64))) rfl ?_
    show Steps pP.tables eE below (T15_.setTop (mkF mM 32 #[.val (.ref a), .val (.ref u), .val (.ref v), .val (.double (4377498837804122112 : UInt64)), .second, .val (.double (4503599627370496 : UInt64)), .second, .val (.int (0 : Int32))] [(.double (FP.dmul x (4377498837804122112 : UInt64))), (.int (0 : Int32)), (.ref b2_)])) tT
    refine XS.dload X15_.here hx rfl (Jvm.hb hby own_d10_32) rfl ?_
    show Steps pP.tables eE below (T15_.setTop (mkF mM 34 #[.val (.ref a), .val (.ref u), .val (.ref v), .val (.double (4377498837804122112 : UInt64)), .second, .val (.double (4503599627370496 : UInt64)), .second, .val (.int (0 : Int32))] [(.double (4503599627370496 : UInt64)), (.double (FP.dmul x (4377498837804122112 : UInt64))), (.int (0 : Int32)), (.ref b2_)])) tT
    refine XS.daddS X15_.here hx rfl (Jvm.hb hby own_d10_34) rfl n2 (v := (FP.dadd (FP.dmul x (4377498837804122112 : UInt64)) (4503599627370496 : UInt64))) rfl ?_
    show Steps pP.tables eE below (T15_.setTop (mkF mM 35 #[.val (.ref a), .val (.ref u), .val (.ref v), .val (.double (4377498837804122112 : UInt64)), .second, .val (.double (4503599627370496 : UInt64)), .second, .val (.int (0 : Int32))] [(.double (FP.dadd (FP.dmul x (4377498837804122112 : UInt64)) (4503599627370496 : UInt64))), (.int (0 : Int32)), (.ref b2_)])) tT
    exact kK
  obtain ⟨cl17_, Ar17_, Sz17_, Nn17_, Hh17_⟩ := id fc13_
  have hin17_ : ¬ ((0 : Int32) < 0 ∨ cl17_.slots.size ≤ ((0 : Int32)).toNatClampNeg) := inb_of Sz17_ ⟨by decide, by decide⟩
  obtain ⟨T17_, h17_, X17_, e17_, W17_, st17_⟩ := stD X15_ hx hZ e15_ Ar17_ (j := (0 : Int32)) hin17_ (g := (mkF mM 35 #[.val (.ref a), .val (.ref u), .val (.ref v), .val (.double (4377498837804122112 : UInt64)), .second, .val (.double (4503599627370496 : UInt64)), .second, .val (.int (0 : Int32))] [(.double (FP.dadd (FP.dmul x (4377498837804122112 : UInt64)) (4503599627370496 : UInt64))), (.int (0 : Int32)), (.ref b2_)])) rfl rfl (Jvm.hb hby own_d10_35)
  have U17_ : own_TD Z h17_ b2_ (1 : Int32) (own_upD (fun _ => (0 : UInt64)) (0 : Int32) (FP.dadd (FP.dmul x (4377498837804122112 : UInt64)) (4503599627370496 : UInt64))) := own_TD.set ⟨cl17_, Ar17_, Sz17_, Nn17_, Hh17_⟩ W17_ ⟨by decide, by decide⟩
  have fc18_ := p10__1.wr W17_
  have fc19_ := fc12_.other W17_ ne4_
  have fc20_ := p10__2.other W17_ (Or.inl ne3_)
  have fc21_ := p10__3.other W17_ (Or.inl ne3_)
  have K17_ := K10_.wr W17_ (Or.inr sz_b2_)
  have N17_ := Fr.snoc X17_ N10_ ge_b2_
  refine own_fin st17_ ?_
  show own_Fin pP eE below _ (T17_.setTop (mkF mM 36 #[.val (.ref a), .val (.ref u), .val (.ref v), .val (.double (4377498837804122112 : UInt64)), .second, .val (.double (4503599627370496 : UInt64)), .second, .val (.int (0 : Int32))] []))
  refine own_fin (b := T17_.setTop (mkF mM 16 #[.val (.ref a), .val (.ref u), .val (.ref v), .val (.double (4377498837804122112 : UInt64)), .second, .val (.double (4503599627370496 : UInt64)), .second, .val (.int (1 : Int32))] [(.ref v), (.int (1 : Int32))])) (fun tT kK => ?_) ?_
  · show Steps pP.tables eE below (T17_.setTop (mkF mM 36 #[.val (.ref a), .val (.ref u), .val (.ref v), .val (.double (4377498837804122112 : UInt64)), .second, .val (.double (4503599627370496 : UInt64)), .second, .val (.int (0 : Int32))] [])) tT
    refine XS.iinc X17_.here hx rfl (Jvm.hb hby own_d10_36) rfl (l' := #[.val (.ref a), .val (.ref u), .val (.ref v), .val (.double (4377498837804122112 : UInt64)), .second, .val (.double (4503599627370496 : UInt64)), .second, .val (.int (1 : Int32))]) rfl ?_
    show Steps pP.tables eE below (T17_.setTop (mkF mM 39 #[.val (.ref a), .val (.ref u), .val (.ref v), .val (.double (4377498837804122112 : UInt64)), .second, .val (.double (4503599627370496 : UInt64)), .second, .val (.int (1 : Int32))] [])) tT
    refine XS.goto X17_.here hx rfl (pc0 := 39) (pc' := 13) rfl (Jvm.hb hby own_d10_39) (by decide) (by decide) ?_
    show Steps pP.tables eE below (T17_.setTop (mkF mM 13 #[.val (.ref a), .val (.ref u), .val (.ref v), .val (.double (4377498837804122112 : UInt64)), .second, .val (.double (4503599627370496 : UInt64)), .second, .val (.int (1 : Int32))] [])) tT
    refine XS.iload X17_.here hx rfl (Jvm.hb hby own_d10_13) rfl ?_
    show Steps pP.tables eE below (T17_.setTop (mkF mM 15 #[.val (.ref a), .val (.ref u), .val (.ref v), .val (.double (4377498837804122112 : UInt64)), .second, .val (.double (4503599627370496 : UInt64)), .second, .val (.int (1 : Int32))] [(.int (1 : Int32))])) tT
    refine XS.aloadN X17_.here hx rfl (Jvm.hb hby own_d10_15) rfl rfl ?_
    show Steps pP.tables eE below (T17_.setTop (mkF mM 16 #[.val (.ref a), .val (.ref u), .val (.ref v), .val (.double (4377498837804122112 : UInt64)), .second, .val (.double (4503599627370496 : UInt64)), .second, .val (.int (1 : Int32))] [(.ref v), (.int (1 : Int32))])) tT
    exact kK
  obtain ⟨cl22_, Ar22_, Sz22_, Nn22_, -⟩ := id fc19_
  refine own_fin (b := T17_.setTop (mkF mM 42 #[.val (.ref a), .val (.ref u), .val (.ref v), .val (.double (4377498837804122112 : UInt64)), .second, .val (.double (4503599627370496 : UInt64)), .second, .val (.int (1 : Int32))] [])) (fun tT kK => ?_) ?_
  · show Steps pP.tables eE below (T17_.setTop (mkF mM 16 #[.val (.ref a), .val (.ref u), .val (.ref v), .val (.double (4377498837804122112 : UInt64)), .second, .val (.double (4503599627370496 : UInt64)), .second, .val (.int (1 : Int32))] [(.ref v), (.int (1 : Int32))])) tT
    refine X17_.arraylength hx (own_rw e17_ Ar22_.1) (State.isArrayOf_alike hZ.alike Ar22_.2.1) (g := (mkF mM 16 #[.val (.ref a), .val (.ref u), .val (.ref v), .val (.double (4377498837804122112 : UInt64)), .second, .val (.double (4503599627370496 : UInt64)), .second, .val (.int (1 : Int32))] [(.ref v), (.int (1 : Int32))])) rfl rfl (Jvm.hb hby own_d10_16) _ ?_
    rw [len_of Sz22_ Nn22_]
    show Steps pP.tables eE below (T17_.setTop (mkF mM 17 #[.val (.ref a), .val (.ref u), .val (.ref v), .val (.double (4377498837804122112 : UInt64)), .second, .val (.double (4503599627370496 : UInt64)), .second, .val (.int (1 : Int32))] [(.int (1 : Int32)), (.int (1 : Int32))])) tT
    refine XS.icmpYes X17_.here hx rfl (pc0 := 17) (pc' := 42) rfl (Jvm.hb hby own_d10_17) rfl (flt ((by decide) : ¬ ((1 : Int32) < (1 : Int32)))).2.1 (by decide) (by decide) ?_
    show Steps pP.tables eE below (T17_.setTop (mkF mM 42 #[.val (.ref a), .val (.ref u), .val (.ref v), .val (.double (4377498837804122112 : UInt64)), .second, .val (.double (4503599627370496 : UInt64)), .second, .val (.int (1 : Int32))] [])) tT
    exact kK
  obtain ⟨fs, hr, hrun, hended, hW, hsame⟩ := X17_.leave (v := none) (fun _ => rfl)
  refine ⟨_, _, ?_, hrun, hended, _, _, rfl, ?_, ⟨_, rfl⟩, hW, hsame.mono (by decide) (by decide)⟩
  · show Steps pP.tables eE below (T17_.setTop (mkF mM 42 #[.val (.ref a), .val (.ref u), .val (.ref v), .val (.double (4377498837804122112 : UInt64)), .second, .val (.double (4503599627370496 : UInt64)), .second, .val (.int (1 : Int32))] [])) _
    exact X17_.returnOut hx Bd.returns (Jvm.hb hby own_d10_42) hr
  · show Q_rm_di2 Z a u v x h0 n0 _ T17_.heap _
    rw [e17_]
    exact ⟨b2_, rfl, N17_, K17_, sz_b2_, fc18_, fc20_, fc21_, fc19_, U17_⟩
theorem own_d9_0 : decode prog_28_method_10_code 0 = .ok (.aload_n 1, 1) := by decide +kernel
theorem own_d9_1 : decode prog_28_method_10_code 1 = .ok (.arraylength, 1) := by decide +kernel
theorem own_d9_2 : decode prog_28_method_10_code 2 = .ok (.newarray .double, 2) := by decide +kernel
theorem own_d9_4 : decode prog_28_method_10_code 4 = .ok (.astore_n 2, 1) := by decide +kernel
theorem own_d9_5 : decode prog_28_method_10_code 5 = .ok (.iconst 0, 1) := by decide +kernel
theorem own_d9_6 : decode prog_28_method_10_code 6 = .ok (.istore_n 3, 1) := by decide +kernel
theorem own_d9_7 : decode prog_28_method_10_code 7 = .ok (.iload_n 3, 1) := by decide +kernel
theorem own_d9_8 : decode prog_28_method_10_code 8 = .ok (.aload_n 1, 1) := by decide +kernel
theorem own_d9_9 : decode prog_28_method_10_code 9 = .ok (.arraylength, 1) := by decide +kernel
theorem own_d9_10 : decode prog_28_method_10_code 10 = .ok (.if_icmp .ge 20, 3) := by decide +kernel
theorem own_d9_13 : decode prog_28_method_10_code 13 = .ok (.aload_n 2, 1) := by decide +kernel
theorem own_d9_14 : decode prog_28_method_10_code 14 = .ok (.iload_n 3, 1) := by decide +kernel
theorem own_d9_15 : decode prog_28_method_10_code 15 = .ok (.aload_n 0, 1) := by decide +kernel
theorem own_d9_16 : decode prog_28_method_10_code 16 = .ok (.getfield 7, 3) := by decide +kernel
theorem own_d9_19 : decode prog_28_method_10_code 19 = .ok (.aload_n 1, 1) := by decide +kernel
theorem own_d9_20 : decode prog_28_method_10_code 20 = .ok (.iload_n 3, 1) := by decide +kernel
theorem own_d9_21 : decode prog_28_method_10_code 21 = .ok (.iaload, 1) := by decide +kernel
theorem own_d9_22 : decode prog_28_method_10_code 22 = .ok (.daload, 1) := by decide +kernel
theorem own_d9_23 : decode prog_28_method_10_code 23 = .ok (.dastore, 1) := by decide +kernel
theorem own_d9_24 : decode prog_28_method_10_code 24 = .ok (.iinc 3 1, 3) := by decide +kernel
theorem own_d9_27 : decode prog_28_method_10_code 27 = .ok (.goto (-20), 3) := by decide +kernel
theorem own_d9_30 : decode prog_28_method_10_code 30 = .ok (.new 41, 3) := by decide +kernel
theorem own_d9_33 : decode prog_28_method_10_code 33 = .ok (.dup, 1) := by decide +kernel
theorem own_d9_34 : decode prog_28_method_10_code 34 = .ok (.aload_n 1, 1) := by decide +kernel
theorem own_d9_35 : decode prog_28_method_10_code 35 = .ok (.aload_n 2, 1) := by decide +kernel
theorem own_d9_36 : decode prog_28_method_10_code 36 = .ok (.aload_n 0, 1) := by decide +kernel
theorem own_d9_37 : decode prog_28_method_10_code 37 = .ok (.getfield 19, 3) := by decide +kernel
theorem own_d9_40 : decode prog_28_method_10_code 40 = .ok (.aload_n 0, 1) := by decide +kernel
theorem own_d9_41 : decode prog_28_method_10_code 41 = .ok (.getfield 23, 3) := by decide +kernel
theorem own_d9_44 : decode prog_28_method_10_code 44 = .ok (.i2l, 1) := by decide +kernel
theorem own_d9_45 : decode prog_28_method_10_code 45 = .ok (.ladd, 1) := by decide +kernel
theorem own_d9_46 : decode prog_28_method_10_code 46 = .ok (.l2d, 1) := by decide +kernel
theorem own_d9_47 : decode prog_28_method_10_code 47 = .ok (.ldc2_w 43, 3) := by decide +kernel
theorem own_d9_50 : decode prog_28_method_10_code 50 = .ok (.dmul, 1) := by decide +kernel
theorem own_d9_51 : decode prog_28_method_10_code 51 = .ok (.ldc2_w 47, 3) := by decide +kernel
theorem own_d9_54 : decode prog_28_method_10_code 54 = .ok (.invokespecial 49, 3) := by decide +kernel
theorem own_pd3 : parseMethodDescriptor "([I[DDD)V" = some ⟨[(.array .int), (.array .double), .double, .double], none⟩ := by decide +kernel
theorem own_d9_57 : decode prog_28_method_10_code 57 = .ok (.areturn, 1) := by decide +kernel
theorem own_ef_rm_dist (mM : MethodId) (x0 : Addr) (x1 : Addr) : entryFrame mM #[(.ref x0), (.ref x1)] 4 = mkF mM 0 #[.val (.ref x0), .val (.ref x1), .unset, .unset] [] := by first | (simp [entryFrame, mkF, argsToLocals, Value.category]; done) | rfl
def Q_rm_dist (Z : State) (a : Addr) (u : Addr) (m : Addr) (e : Int32) (ku : ClassId) (f : Int32 → UInt64) (h0 : Heap) (n0 : Nat) (vV : Option Value) (hH : Heap) (lA : List Loc) : Prop := ∃ d : Addr, ∃ b1 : Addr, ∃ b2 : Addr, vV = some (.ref d) ∧ Fr n0 lA ∧ (Keep h0 hH []) ∧ (Exa Z hH d "com/example/chains_to_rank/chainstorank/graph/Distribution") ∧ (Fld Z hH d "com/example/chains_to_rank/chainstorank/graph/Distribution" "probabilities" "[D" (.ref b1)) ∧ (Fld Z hH d "com/example/chains_to_rank/chainstorank/graph/Distribution" "errorBounds" "[D" (.ref b2)) ∧ (own_TD Z hH b1 (1 : Int32) (own_upD (fun _ => (0 : UInt64)) (0 : Int32) (f e))) ∧ (own_TD Z hH b2 (1 : Int32) (own_upD (fun _ => (0 : UInt64)) (0 : Int32) (FP.dadd (FP.dmul (f e) (4377498837804122112 : UInt64)) (4503599627370496 : UInt64))))
set_option maxRecDepth 65536 in
set_option maxHeartbeats 40000000 in
theorem rm_dist (lL : Launch) (Z : State) (a0 : Array Value) (hw : ∀ d ∈ tables_1, d.before a0 Z = true) (ws : List Jvm.Cond) (a : Addr) (u : Addr) (m : Addr) (e : Int32) (ku : ClassId) (f : Int32 → UInt64) (h0 : Heap) (n0 : Nat) (Z0 : n0 ≤ h0.size) (Fm : Fld Z h0 a "com/example/chains_to_rank/chainstorank/graph/DoubleArithmetic" "mass" "[D" (.ref m)) (Fq : Fld Z h0 a "com/example/chains_to_rank/chainstorank/graph/DoubleArithmetic" "roundings" "J" (.long (1 : Int64))) (Fs : Fld Z h0 a "com/example/chains_to_rank/chainstorank/graph/DoubleArithmetic" "mostShares" "I" (.int (0 : Int32))) (T1 : own_TD Z h0 m (4 : Int32) f) (Vu : Arv Z h0 u ku .int (1 : Int32) [(.int e)] (.int (0 : Int32))) (hi : ¬ e < 0 ∧ e < (4 : Int32)) (n1 : NoNaN64 (FP.dmul (f e) (4377498837804122112 : UInt64))) (n2 : NoNaN64 (FP.dadd (FP.dmul (f e) (4377498837804122112 : UInt64)) (4503599627370496 : UInt64))) :
    MetFree lL (⟨"com/example/chains_to_rank/chainstorank/graph/DoubleArithmetic", "distribution", "([I)Lcom/example/chains_to_rank/chainstorank/graph/Distribution;"⟩ : MethodName) (head1 (Jvm.Cond.code (⟨"com/example/chains_to_rank/chainstorank/graph/DoubleArithmetic", "distribution", "([I)Lcom/example/chains_to_rank/chainstorank/graph/Distribution;"⟩ : MethodName) prog_28_method_10_code 4 (some (.object "com/example/chains_to_rank/chainstorank/graph/Distribution")) :: ws) ({ frames := 3, cells := 3, slots := 5, locals := 47 } : Room)) (fun aA uU => aA = #[(.ref a), (.ref u)] ∧ Z.Warmed39 uU.vm ∧ uU.heap = h0) (fun _ _ _ _ _ => True) (fun _ uU oO uU' => ∃ vV lA, oO = .returned vV ∧ Q_rm_dist Z a u m e ku f h0 n0 vV uU'.heap lA ∧ FrameEnd uU oO uU' lA ({ frames := 3, cells := 3, slots := 5, locals := 47 } : Room).cells ({ frames := 3, cells := 3, slots := 5, locals := 47 } : Room).slots) := by
  refine MetFree.of_bodySF (plainFor_of_name own_pn_com_example_chains_to_rank_chainstorank_graph_DoubleArithmetic) hisR ?_
  intro pP eE sS mM args below meth cC s₁ Bd hml0 hP hK
  obtain ⟨rfl, hZ, hh⟩ := hP
  have hx := Bd.exec
  have hby := Bd.bytes
  have hml : cC.maxLocals = 4 := hml0
  have hown : sS.vm.findClass "com/example/chains_to_rank/chainstorank/graph/DoubleArithmetic" = some mM.cls := findClass_of_methodNamed Bd.named
  have hnm := (name_of_methodNamed Bd.named Bd.method).1
  have X0 : Stand pP lL eE ({ frames := 3, cells := 3, slots := 5, locals := 47 } : Room) sS mM #[(.ref a), (.ref u)] below meth cC s₁ [] 0 0 := Stand.of_body Bd
  have e0 : s₁.heap = h0 := by rw [← hh, Bd.state]; rfl
  have N0 := Fr.nil n0
  have K0 := Keep.refl h0 ([] : List Addr)
  show own_Fin pP eE below (fun tT oO => ∃ vV lA, oO = .returned vV ∧ Q_rm_dist Z a u m e ku f h0 n0 vV tT.heap lA ∧ FrameEnd sS oO tT lA ({ frames := 3, cells := 3, slots := 5, locals := 47 } : Room).cells ({ frames := 3, cells := 3, slots := 5, locals := 47 } : Room).slots) (s₁.setTop (entryFrame mM #[(.ref a), (.ref u)] 4))
  refine own_fin (b := s₁.setTop (mkF mM 0 #[.val (.ref a), .val (.ref u), .unset, .unset] [])) (fun tT kK => castTop (own_ef_rm_dist mM a u) kK) ?_
  refine own_fin (b := s₁.setTop (mkF mM 1 #[.val (.ref a), .val (.ref u), .unset, .unset] [(.ref u)])) (fun tT kK => ?_) ?_
  · show Steps pP.tables eE below (s₁.setTop (mkF mM 0 #[.val (.ref a), .val (.ref u), .unset, .unset] [])) tT
    refine XS.aloadN X0.here hx rfl (Jvm.hb hby own_d9_0) rfl rfl ?_
    show Steps pP.tables eE below (s₁.setTop (mkF mM 1 #[.val (.ref a), .val (.ref u), .unset, .unset] [(.ref u)])) tT
    exact kK
  obtain ⟨cl1_, Ar1_, qk1_, Sz1_, Nn1_, Hh1_, Gg1_⟩ := id Vu
  refine own_fin (b := s₁.setTop (mkF mM 2 #[.val (.ref a), .val (.ref u), .unset, .unset] [(.int (1 : Int32))])) (fun tT kK => ?_) ?_
  · show Steps pP.tables eE below (s₁.setTop (mkF mM 1 #[.val (.ref a), .val (.ref u), .unset, .unset] [(.ref u)])) tT
    refine X0.arraylength hx (own_rw e0 Ar1_.1) (State.isArrayOf_alike hZ.alike Ar1_.2.1) (g := (mkF mM 1 #[.val (.ref a), .val (.ref u), .unset, .unset] [(.ref u)])) rfl rfl (Jvm.hb hby own_d9_1) _ ?_
    rw [len_of Sz1_ Nn1_]
    show Steps pP.tables eE below (s₁.setTop (mkF mM 2 #[.val (.ref a), .val (.ref u), .unset, .unset] [(.int (1 : Int32))])) tT
    exact kK
  obtain ⟨T2_, h2_, k2_, X2_, e2_, E2_, A2_, st2_⟩ := newP X0 hx hZ (hw _ (List.mem_of_getElem? (i := 11) rfl)) e0 (g := (mkF mM 2 #[.val (.ref a), .val (.ref u), .unset, .unset] [(.int (1 : Int32))])) rfl (Jvm.hb hby own_d9_2) rfl (by decide) (cap := 1) (by decide) (by decide) (by decide) (by decide)
  obtain ⟨b2_, g2_⟩ : ∃ z, z = h0.size := ⟨_, rfl⟩
  rw [← g2_] at A2_ st2_
  have sz_b2_ : h0.size ≤ b2_ := Nat.le_trans K0.1 (Nat.le_of_eq g2_.symm)
  have ge_b2_ : n0 ≤ b2_ := Nat.le_trans Z0 sz_b2_
  have ne3_ : a ≠ b2_ := Nat.ne_of_lt (Nat.lt_of_lt_of_le Fm.lt (Nat.le_of_eq g2_.symm))
  have ne4_ : m ≠ b2_ := Nat.ne_of_lt (Nat.lt_of_lt_of_le T1.lt (Nat.le_of_eq g2_.symm))
  have ne5_ : u ≠ b2_ := Nat.ne_of_lt (Nat.lt_of_lt_of_le Vu.lt (Nat.le_of_eq g2_.symm))
  have fc6_ := Fm.ext E2_
  have fc7_ := Fq.ext E2_
  have fc8_ := Fs.ext E2_
  have fc9_ := T1.ext E2_
  have fc10_ := Vu.ext E2_
  have K2_ := K0.ext E2_
  have V2_ : own_TD Z h2_ b2_ (1 : Int32) (fun _ => (0 : UInt64)) := own_TD.new A2_ (by decide)
  refine own_fin st2_ ?_
  show own_Fin pP eE below _ (T2_.setTop (mkF mM 4 #[.val (.ref a), .val (.ref u), .unset, .unset] [(.ref b2_)]))
  refine own_fin (b := T2_.setTop (mkF mM 9 #[.val (.ref a), .val (.ref u), .val (.ref b2_), .val (.int (0 : Int32))] [(.ref u), (.int (0 : Int32))])) (fun tT kK => ?_) ?_
  · show Steps pP.tables eE below (T2_.setTop (mkF mM 4 #[.val (.ref a), .val (.ref u), .unset, .unset] [(.ref b2_)])) tT
    refine XS.astoreN X2_.here hx rfl (Jvm.hb hby own_d9_4) rfl rfl (l' := #[.val (.ref a), .val (.ref u), .val (.ref b2_), .unset]) rfl ?_
    show Steps pP.tables eE below (T2_.setTop (mkF mM 5 #[.val (.ref a), .val (.ref u), .val (.ref b2_), .unset] [])) tT
    refine XS.iconst X2_.here hx rfl (Jvm.hb hby own_d9_5) ?_
    show Steps pP.tables eE below (T2_.setTop (mkF mM 6 #[.val (.ref a), .val (.ref u), .val (.ref b2_), .unset] [(.int (0 : Int32))])) tT
    refine XS.istoreN X2_.here hx rfl (Jvm.hb hby own_d9_6) rfl (l' := #[.val (.ref a), .val (.ref u), .val (.ref b2_), .val (.int (0 : Int32))]) rfl ?_
    show Steps pP.tables eE below (T2_.setTop (mkF mM 7 #[.val (.ref a), .val (.ref u), .val (.ref b2_), .val (.int (0 : Int32))] [])) tT
    refine XS.iloadN X2_.here hx rfl (Jvm.hb hby own_d9_7) rfl ?_
    show Steps pP.tables eE below (T2_.setTop (mkF mM 8 #[.val (.ref a), .val (.ref u), .val (.ref b2_), .val (.int (0 : Int32))] [(.int (0 : Int32))])) tT
    refine XS.aloadN X2_.here hx rfl (Jvm.hb hby own_d9_8) rfl rfl ?_
    show Steps pP.tables eE below (T2_.setTop (mkF mM 9 #[.val (.ref a), .val (.ref u), .val (.ref b2_), .val (.int (0 : Int32))] [(.ref u), (.int (0 : Int32))])) tT
    exact kK
  obtain ⟨cl11_, Ar11_, qk11_, Sz11_, Nn11_, Hh11_, Gg11_⟩ := id fc10_
  refine own_fin (b := T2_.setTop (mkF mM 16 #[.val (.ref a), .val (.ref u), .val (.ref b2_), .val (.int (0 : Int32))] [(.ref a), (.int (0 : Int32)), (.ref b2_)])) (fun tT kK => ?_) ?_
  · show Steps pP.tables eE below (T2_.setTop (mkF mM 9 #[.val (.ref a), .val (.ref u), .val (.ref b2_), .val (.int (0 : Int32))] [(.ref u), (.int (0 : Int32))])) tT
    refine X2_.arraylength hx (own_rw e2_ Ar11_.1) (State.isArrayOf_alike hZ.alike Ar11_.2.1) (g := (mkF mM 9 #[.val (.ref a), .val (.ref u), .val (.ref b2_), .val (.int (0 : Int32))] [(.ref u), (.int (0 : Int32))])) rfl rfl (Jvm.hb hby own_d9_9) _ ?_
    rw [len_of Sz11_ Nn11_]
    show Steps pP.tables eE below (T2_.setTop (mkF mM 10 #[.val (.ref a), .val (.ref u), .val (.ref b2_), .val (.int (0 : Int32))] [(.int (1 : Int32)), (.int (0 : Int32))])) tT
    refine XS.icmpNo X2_.here hx rfl (Jvm.hb hby own_d9_10) rfl (tlt ((by decide) : (0 : Int32) < (1 : Int32))).2.1 ?_
    show Steps pP.tables eE below (T2_.setTop (mkF mM 13 #[.val (.ref a), .val (.ref u), .val (.ref b2_), .val (.int (0 : Int32))] [])) tT
    refine XS.aloadN X2_.here hx rfl (Jvm.hb hby own_d9_13) rfl rfl ?_
    show Steps pP.tables eE below (T2_.setTop (mkF mM 14 #[.val (.ref a), .val (.ref u), .val (.ref b2_), .val (.int (0 : Int32))] [(.ref b2_)])) tT
    refine XS.iloadN X2_.here hx rfl (Jvm.hb hby own_d9_14) rfl ?_
    show Steps pP.tables eE below (T2_.setTop (mkF mM 15 #[.val (.ref a), .val (.ref u), .val (.ref b2_), .val (.int (0 : Int32))] [(.int (0 : Int32)), (.ref b2_)])) tT
    refine XS.aloadN X2_.here hx rfl (Jvm.hb hby own_d9_15) rfl rfl ?_
    show Steps pP.tables eE below (T2_.setTop (mkF mM 16 #[.val (.ref a), .val (.ref u), .val (.ref b2_), .val (.int (0 : Int32))] [(.ref a), (.int (0 : Int32)), (.ref b2_)])) tT
    exact kK
  obtain ⟨T12_, X12_, e12_, st12_⟩ := getF X2_ hx hZ hown (host := "") (Or.inl (hw _ (List.mem_of_getElem? (i := 12) rfl))) Via.refl e2_ fc6_ (g := (mkF mM 16 #[.val (.ref a), .val (.ref u), .val (.ref b2_), .val (.int (0 : Int32))] [(.ref a), (.int (0 : Int32)), (.ref b2_)])) rfl rfl (Jvm.hb hby own_d9_16)
  refine own_fin st12_ ?_
  show own_Fin pP eE below _ (T12_.setTop (mkF mM 19 #[.val (.ref a), .val (.ref u), .val (.ref b2_), .val (.int (0 : Int32))] [(.ref m), (.int (0 : Int32)), (.ref b2_)]))
  refine own_fin (b := T12_.setTop (mkF mM 21 #[.val (.ref a), .val (.ref u), .val (.ref b2_), .val (.int (0 : Int32))] [(.int (0 : Int32)), (.ref u), (.ref m), (.int (0 : Int32)), (.ref b2_)])) (fun tT kK => ?_) ?_
  · show Steps pP.tables eE below (T12_.setTop (mkF mM 19 #[.val (.ref a), .val (.ref u), .val (.ref b2_), .val (.int (0 : Int32))] [(.ref m), (.int (0 : Int32)), (.ref b2_)])) tT
    refine XS.aloadN X12_.here hx rfl (Jvm.hb hby own_d9_19) rfl rfl ?_
    show Steps pP.tables eE below (T12_.setTop (mkF mM 20 #[.val (.ref a), .val (.ref u), .val (.ref b2_), .val (.int (0 : Int32))] [(.ref u), (.ref m), (.int (0 : Int32)), (.ref b2_)])) tT
    refine XS.iloadN X12_.here hx rfl (Jvm.hb hby own_d9_20) rfl ?_
    show Steps pP.tables eE below (T12_.setTop (mkF mM 21 #[.val (.ref a), .val (.ref u), .val (.ref b2_), .val (.int (0 : Int32))] [(.int (0 : Int32)), (.ref u), (.ref m), (.int (0 : Int32)), (.ref b2_)])) tT
    exact kK
  obtain ⟨cl13_, Ar13_, qk13_, Sz13_, Nn13_, Hh13_, Gg13_⟩ := id fc10_
  have hin14_ : ¬ ((0 : Int32) < 0 ∨ cl13_.slots.size ≤ ((0 : Int32)).toNatClampNeg) := inb_of Sz13_ ⟨by decide, by decide⟩
  have hat14_ : cl13_.slots[((0 : Int32)).toNatClampNeg]? = some (.int e) := Hh13_.at hin14_ rfl
  refine own_fin (b := T12_.setTop (mkF mM 22 #[.val (.ref a), .val (.ref u), .val (.ref b2_), .val (.int (0 : Int32))] [(.int e), (.ref m), (.int (0 : Int32)), (.ref b2_)])) (fun tT kK => ?_) ?_
  · show Steps pP.tables eE below (T12_.setTop (mkF mM 21 #[.val (.ref a), .val (.ref u), .val (.ref b2_), .val (.int (0 : Int32))] [(.int (0 : Int32)), (.ref u), (.ref m), (.int (0 : Int32)), (.ref b2_)])) tT
    refine X12_.iaload hx (j := (0 : Int32)) (v := (.int e)) (own_rw e12_ Ar13_.1) (State.isArrayOf_alike hZ.alike Ar13_.2.1) Ar13_.2.2 hin14_ hat14_ (g := (mkF mM 21 #[.val (.ref a), .val (.ref u), .val (.ref b2_), .val (.int (0 : Int32))] [(.int (0 : Int32)), (.ref u), (.ref m), (.int (0 : Int32)), (.ref b2_)])) rfl rfl (Jvm.hb hby own_d9_21) _ ?_
    show Steps pP.tables eE below (T12_.setTop (mkF mM 22 #[.val (.ref a), .val (.ref u), .val (.ref b2_), .val (.int (0 : Int32))] [(.int e), (.ref m), (.int (0 : Int32)), (.ref b2_)])) tT
    exact kK
  obtain ⟨cl15_, Ar15_, Sz15_, Nn15_, Hh15_⟩ := id fc9_
  have hin15_ : ¬ (e < 0 ∨ cl15_.slots.size ≤ (e).toNatClampNeg) := inb_of Sz15_ hi
  have hat15_ : cl15_.slots[(e).toNatClampNeg]? = some (.double (f e)) := Hh15_ _ hin15_
  refine own_fin (b := T12_.setTop (mkF mM 23 #[.val (.ref a), .val (.ref u), .val (.ref b2_), .val (.int (0 : Int32))] [(.double (f e)), (.int (0 : Int32)), (.ref b2_)])) (fun tT kK => ?_) ?_
  · show Steps pP.tables eE below (T12_.setTop (mkF mM 22 #[.val (.ref a), .val (.ref u), .val (.ref b2_), .val (.int (0 : Int32))] [(.int e), (.ref m), (.int (0 : Int32)), (.ref b2_)])) tT
    refine X12_.daload hx (j := e) (v := (.double (f e))) (own_rw e12_ Ar15_.1) (State.isArrayOf_alike hZ.alike Ar15_.2.1) Ar15_.2.2 hin15_ hat15_ (g := (mkF mM 22 #[.val (.ref a), .val (.ref u), .val (.ref b2_), .val (.int (0 : Int32))] [(.int e), (.ref m), (.int (0 : Int32)), (.ref b2_)])) rfl rfl (Jvm.hb hby own_d9_22) _ ?_
    show Steps pP.tables eE below (T12_.setTop (mkF mM 23 #[.val (.ref a), .val (.ref u), .val (.ref b2_), .val (.int (0 : Int32))] [(.double (f e)), (.int (0 : Int32)), (.ref b2_)])) tT
    exact kK
  obtain ⟨cl16_, Ar16_, Sz16_, Nn16_, Hh16_⟩ := id V2_
  have hin16_ : ¬ ((0 : Int32) < 0 ∨ cl16_.slots.size ≤ ((0 : Int32)).toNatClampNeg) := inb_of Sz16_ ⟨by decide, by decide⟩
  obtain ⟨T16_, h16_, X16_, e16_, W16_, st16_⟩ := stD X12_ hx hZ e12_ Ar16_ (j := (0 : Int32)) hin16_ (g := (mkF mM 23 #[.val (.ref a), .val (.ref u), .val (.ref b2_), .val (.int (0 : Int32))] [(.double (f e)), (.int (0 : Int32)), (.ref b2_)])) rfl rfl (Jvm.hb hby own_d9_23)
  have U16_ : own_TD Z h16_ b2_ (1 : Int32) (own_upD (fun _ => (0 : UInt64)) (0 : Int32) (f e)) := own_TD.set ⟨cl16_, Ar16_, Sz16_, Nn16_, Hh16_⟩ W16_ ⟨by decide, by decide⟩
  have fc17_ := fc6_.other W16_ (Or.inl ne3_)
  have fc18_ := fc7_.other W16_ (Or.inl ne3_)
  have fc19_ := fc8_.other W16_ (Or.inl ne3_)
  have fc20_ := fc9_.other W16_ ne4_
  have fc21_ := fc10_.other W16_ ne5_
  have K16_ := K2_.wr W16_ (Or.inr sz_b2_)
  have N16_ := Fr.snoc X16_ N0 ge_b2_
  refine own_fin st16_ ?_
  show own_Fin pP eE below _ (T16_.setTop (mkF mM 24 #[.val (.ref a), .val (.ref u), .val (.ref b2_), .val (.int (0 : Int32))] []))
  refine own_fin (b := T16_.setTop (mkF mM 9 #[.val (.ref a), .val (.ref u), .val (.ref b2_), .val (.int (1 : Int32))] [(.ref u), (.int (1 : Int32))])) (fun tT kK => ?_) ?_
  · show Steps pP.tables eE below (T16_.setTop (mkF mM 24 #[.val (.ref a), .val (.ref u), .val (.ref b2_), .val (.int (0 : Int32))] [])) tT
    refine XS.iinc X16_.here hx rfl (Jvm.hb hby own_d9_24) rfl (l' := #[.val (.ref a), .val (.ref u), .val (.ref b2_), .val (.int (1 : Int32))]) rfl ?_
    show Steps pP.tables eE below (T16_.setTop (mkF mM 27 #[.val (.ref a), .val (.ref u), .val (.ref b2_), .val (.int (1 : Int32))] [])) tT
    refine XS.goto X16_.here hx rfl (pc0 := 27) (pc' := 7) rfl (Jvm.hb hby own_d9_27) (by decide) (by decide) ?_
    show Steps pP.tables eE below (T16_.setTop (mkF mM 7 #[.val (.ref a), .val (.ref u), .val (.ref b2_), .val (.int (1 : Int32))] [])) tT
    refine XS.iloadN X16_.here hx rfl (Jvm.hb hby own_d9_7) rfl ?_
    show Steps pP.tables eE below (T16_.setTop (mkF mM 8 #[.val (.ref a), .val (.ref u), .val (.ref b2_), .val (.int (1 : Int32))] [(.int (1 : Int32))])) tT
    refine XS.aloadN X16_.here hx rfl (Jvm.hb hby own_d9_8) rfl rfl ?_
    show Steps pP.tables eE below (T16_.setTop (mkF mM 9 #[.val (.ref a), .val (.ref u), .val (.ref b2_), .val (.int (1 : Int32))] [(.ref u), (.int (1 : Int32))])) tT
    exact kK
  obtain ⟨cl22_, Ar22_, qk22_, Sz22_, Nn22_, Hh22_, Gg22_⟩ := id fc21_
  refine own_fin (b := T16_.setTop (mkF mM 30 #[.val (.ref a), .val (.ref u), .val (.ref b2_), .val (.int (1 : Int32))] [])) (fun tT kK => ?_) ?_
  · show Steps pP.tables eE below (T16_.setTop (mkF mM 9 #[.val (.ref a), .val (.ref u), .val (.ref b2_), .val (.int (1 : Int32))] [(.ref u), (.int (1 : Int32))])) tT
    refine X16_.arraylength hx (own_rw e16_ Ar22_.1) (State.isArrayOf_alike hZ.alike Ar22_.2.1) (g := (mkF mM 9 #[.val (.ref a), .val (.ref u), .val (.ref b2_), .val (.int (1 : Int32))] [(.ref u), (.int (1 : Int32))])) rfl rfl (Jvm.hb hby own_d9_9) _ ?_
    rw [len_of Sz22_ Nn22_]
    show Steps pP.tables eE below (T16_.setTop (mkF mM 10 #[.val (.ref a), .val (.ref u), .val (.ref b2_), .val (.int (1 : Int32))] [(.int (1 : Int32)), (.int (1 : Int32))])) tT
    refine XS.icmpYes X16_.here hx rfl (pc0 := 10) (pc' := 30) rfl (Jvm.hb hby own_d9_10) rfl (flt ((by decide) : ¬ ((1 : Int32) < (1 : Int32)))).2.1 (by decide) (by decide) ?_
    show Steps pP.tables eE below (T16_.setTop (mkF mM 30 #[.val (.ref a), .val (.ref u), .val (.ref b2_), .val (.int (1 : Int32))] [])) tT
    exact kK
  obtain ⟨T23_, h23_, X23_, e23_, E23_, A23_, D23_, -, st23_⟩ := newO X16_ hx hZ hown (hw _ (List.mem_of_getElem? (i := 56) rfl)) (hw _ (List.mem_of_getElem? (i := 57) rfl)) (hw _ (List.mem_of_getElem? (i := 58) rfl)) e16_ (g := (mkF mM 30 #[.val (.ref a), .val (.ref u), .val (.ref b2_), .val (.int (1 : Int32))] [])) rfl (Jvm.hb hby own_d9_30) (by decide) (by decide)
  obtain ⟨b23_, g23_⟩ : ∃ z, z = h16_.size := ⟨_, rfl⟩
  rw [← g23_] at A23_ D23_ st23_
  have sz_b23_ : h0.size ≤ b23_ := Nat.le_trans K16_.1 (Nat.le_of_eq g23_.symm)
  have ge_b23_ : n0 ≤ b23_ := Nat.le_trans Z0 sz_b23_
  have ne24_ : a ≠ b23_ := Nat.ne_of_lt (Nat.lt_of_lt_of_le fc17_.lt (Nat.le_of_eq g23_.symm))
  have ne25_ : m ≠ b23_ := Nat.ne_of_lt (Nat.lt_of_lt_of_le fc20_.lt (Nat.le_of_eq g23_.symm))
  have ne26_ : u ≠ b23_ := Nat.ne_of_lt (Nat.lt_of_lt_of_le fc21_.lt (Nat.le_of_eq g23_.symm))
  have ne27_ : b2_ ≠ b23_ := Nat.ne_of_lt (Nat.lt_of_lt_of_le U16_.lt (Nat.le_of_eq g23_.symm))
  have fc28_ := fc17_.ext E23_
  have fc29_ := fc18_.ext E23_
  have fc30_ := fc19_.ext E23_
  have fc31_ := fc20_.ext E23_
  have fc32_ := fc21_.ext E23_
  have fc33_ := U16_.ext E23_
  have K23_ := K16_.ext E23_
  have F23__entities : Fld Z h23_ b23_ "com/example/chains_to_rank/chainstorank/graph/Distribution" "entities" "[I" .null := D23_ (Or.inr (hw _ (List.mem_of_getElem? (i := 69) rfl))) (ty := (.array .int)) (by decide)
  have F23__probabilities : Fld Z h23_ b23_ "com/example/chains_to_rank/chainstorank/graph/Distribution" "probabilities" "[D" .null := D23_ (Or.inr (hw _ (List.mem_of_getElem? (i := 71) rfl))) (ty := (.array .double)) (by decide)
  have F23__errorBounds : Fld Z h23_ b23_ "com/example/chains_to_rank/chainstorank/graph/Distribution" "errorBounds" "[D" .null := D23_ (Or.inr (hw _ (List.mem_of_getElem? (i := 73) rfl))) (ty := (.array .double)) (by decide)
  refine own_fin st23_ ?_
  show own_Fin pP eE below _ (T23_.setTop (mkF mM 33 #[.val (.ref a), .val (.ref u), .val (.ref b2_), .val (.int (1 : Int32))] [(.ref b23_)]))
  refine own_fin (b := T23_.setTop (mkF mM 37 #[.val (.ref a), .val (.ref u), .val (.ref b2_), .val (.int (1 : Int32))] [(.ref a), (.ref b2_), (.ref u), (.ref b23_), (.ref b23_)])) (fun tT kK => ?_) ?_
  · show Steps pP.tables eE below (T23_.setTop (mkF mM 33 #[.val (.ref a), .val (.ref u), .val (.ref b2_), .val (.int (1 : Int32))] [(.ref b23_)])) tT
    refine XS.dup X23_.here hx rfl (Jvm.hb hby own_d9_33) rfl rfl ?_
    show Steps pP.tables eE below (T23_.setTop (mkF mM 34 #[.val (.ref a), .val (.ref u), .val (.ref b2_), .val (.int (1 : Int32))] [(.ref b23_), (.ref b23_)])) tT
    refine XS.aloadN X23_.here hx rfl (Jvm.hb hby own_d9_34) rfl rfl ?_
    show Steps pP.tables eE below (T23_.setTop (mkF mM 35 #[.val (.ref a), .val (.ref u), .val (.ref b2_), .val (.int (1 : Int32))] [(.ref u), (.ref b23_), (.ref b23_)])) tT
    refine XS.aloadN X23_.here hx rfl (Jvm.hb hby own_d9_35) rfl rfl ?_
    show Steps pP.tables eE below (T23_.setTop (mkF mM 36 #[.val (.ref a), .val (.ref u), .val (.ref b2_), .val (.int (1 : Int32))] [(.ref b2_), (.ref u), (.ref b23_), (.ref b23_)])) tT
    refine XS.aloadN X23_.here hx rfl (Jvm.hb hby own_d9_36) rfl rfl ?_
    show Steps pP.tables eE below (T23_.setTop (mkF mM 37 #[.val (.ref a), .val (.ref u), .val (.ref b2_), .val (.int (1 : Int32))] [(.ref a), (.ref b2_), (.ref u), (.ref b23_), (.ref b23_)])) tT
    exact kK
  obtain ⟨T34_, X34_, e34_, st34_⟩ := getF X23_ hx hZ hown (host := "") (Or.inl (hw _ (List.mem_of_getElem? (i := 39) rfl))) Via.refl e23_ fc29_ (g := (mkF mM 37 #[.val (.ref a), .val (.ref u), .val (.ref b2_), .val (.int (1 : Int32))] [(.ref a), (.ref b2_), (.ref u), (.ref b23_), (.ref b23_)])) rfl rfl (Jvm.hb hby own_d9_37)
  refine own_fin st34_ ?_
  show own_Fin pP eE below _ (T34_.setTop (mkF mM 40 #[.val (.ref a), .val (.ref u), .val (.ref b2_), .val (.int (1 : Int32))] [(.long (1 : Int64)), (.ref b2_), (.ref u), (.ref b23_), (.ref b23_)]))
  refine own_fin (b := T34_.setTop (mkF mM 41 #[.val (.ref a), .val (.ref u), .val (.ref b2_), .val (.int (1 : Int32))] [(.ref a), (.long (1 : Int64)), (.ref b2_), (.ref u), (.ref b23_), (.ref b23_)])) (fun tT kK => ?_) ?_
  · show Steps pP.tables eE below (T34_.setTop (mkF mM 40 #[.val (.ref a), .val (.ref u), .val (.ref b2_), .val (.int (1 : Int32))] [(.long (1 : Int64)), (.ref b2_), (.ref u), (.ref b23_), (.ref b23_)])) tT
    refine XS.aloadN X34_.here hx rfl (Jvm.hb hby own_d9_40) rfl rfl ?_
    show Steps pP.tables eE below (T34_.setTop (mkF mM 41 #[.val (.ref a), .val (.ref u), .val (.ref b2_), .val (.int (1 : Int32))] [(.ref a), (.long (1 : Int64)), (.ref b2_), (.ref u), (.ref b23_), (.ref b23_)])) tT
    exact kK
  obtain ⟨T35_, X35_, e35_, st35_⟩ := getF X34_ hx hZ hown (host := "") (Or.inl (hw _ (List.mem_of_getElem? (i := 23) rfl))) Via.refl e34_ fc30_ (g := (mkF mM 41 #[.val (.ref a), .val (.ref u), .val (.ref b2_), .val (.int (1 : Int32))] [(.ref a), (.long (1 : Int64)), (.ref b2_), (.ref u), (.ref b23_), (.ref b23_)])) rfl rfl (Jvm.hb hby own_d9_41)
  refine own_fin st35_ ?_
  show own_Fin pP eE below _ (T35_.setTop (mkF mM 44 #[.val (.ref a), .val (.ref u), .val (.ref b2_), .val (.int (1 : Int32))] [(.int (0 : Int32)), (.long (1 : Int64)), (.ref b2_), (.ref u), (.ref b23_), (.ref b23_)]))
  refine own_fin (b := T35_.setTop (mkF mM 54 #[.val (.ref a), .val (.ref u), .val (.ref b2_), .val (.int (1 : Int32))] [(.double (4503599627370496 : UInt64)), (.double (4377498837804122112 : UInt64)), (.ref b2_), (.ref u), (.ref b23_), (.ref b23_)])) (fun tT kK => ?_) ?_
  · show Steps pP.tables eE below (T35_.setTop (mkF mM 44 #[.val (.ref a), .val (.ref u), .val (.ref b2_), .val (.int (1 : Int32))] [(.int (0 : Int32)), (.long (1 : Int64)), (.ref b2_), (.ref u), (.ref b23_), (.ref b23_)])) tT
    refine XS.i2l X35_.here hx rfl (Jvm.hb hby own_d9_44) rfl ?_
    show Steps pP.tables eE below (T35_.setTop (mkF mM 45 #[.val (.ref a), .val (.ref u), .val (.ref b2_), .val (.int (1 : Int32))] [(.long ((0 : Int32).toInt64)), (.long (1 : Int64)), (.ref b2_), (.ref u), (.ref b23_), (.ref b23_)])) tT
    refine XS.ladd X35_.here hx rfl (Jvm.hb hby own_d9_45) rfl ?_
    show Steps pP.tables eE below (T35_.setTop (mkF mM 46 #[.val (.ref a), .val (.ref u), .val (.ref b2_), .val (.int (1 : Int32))] [(.long ((1 : Int64) + ((0 : Int32).toInt64))), (.ref b2_), (.ref u), (.ref b23_), (.ref b23_)])) tT
    refine XS.l2dS X35_.here hx rfl (Jvm.hb hby own_d9_46) rfl rfl ?_
    show Steps pP.tables eE below (T35_.setTop (mkF mM 47 #[.val (.ref a), .val (.ref u), .val (.ref b2_), .val (.int (1 : Int32))] [(.double (FP.l2d ((1 : Int64) + ((0 : Int32).toInt64)))), (.ref b2_), (.ref u), (.ref b23_), (.ref b23_)])) tT
    refine X35_.ldc2DoubleC hx hown (mvT hZ (hw _ (List.mem_of_getElem? (i := 59) rfl))) (g := (mkF mM 47 #[.val (.ref a), .val (.ref u), .val (.ref b2_), .val (.int (1 : Int32))] [(.double (FP.l2d ((1 : Int64) + ((0 : Int32).toInt64)))), (.ref b2_), (.ref u), (.ref b23_), (.ref b23_)])) rfl (Jvm.hb hby own_d9_47) _ ?_
    show Steps pP.tables eE below (T35_.setTop (mkF mM 50 #[.val (.ref a), .val (.ref u), .val (.ref b2_), .val (.int (1 : Int32))] [(.double (4377498837804122112 : UInt64)), (.double (FP.l2d ((1 : Int64) + ((0 : Int32).toInt64)))), (.ref b2_), (.ref u), (.ref b23_), (.ref b23_)])) tT
    refine XS.dmulS X35_.here hx rfl (Jvm.hb hby own_d9_50) rfl (by rw [own_c51]; unfold NoNaN64; decide) (v := (4377498837804122112 : UInt64)) own_c51 ?_
    show Steps pP.tables eE below (T35_.setTop (mkF mM 51 #[.val (.ref a), .val (.ref u), .val (.ref b2_), .val (.int (1 : Int32))] [(.double (4377498837804122112 : UInt64)), (.ref b2_), (.ref u), (.ref b23_), (.ref b23_)])) tT
    refine X35_.ldc2DoubleC hx hown (mvT hZ (hw _ (List.mem_of_getElem? (i := 60) rfl))) (g := (mkF mM 51 #[.val (.ref a), .val (.ref u), .val (.ref b2_), .val (.int (1 : Int32))] [(.double (4377498837804122112 : UInt64)), (.ref b2_), (.ref u), (.ref b23_), (.ref b23_)])) rfl (Jvm.hb hby own_d9_51) _ ?_
    show Steps pP.tables eE below (T35_.setTop (mkF mM 54 #[.val (.ref a), .val (.ref u), .val (.ref b2_), .val (.int (1 : Int32))] [(.double (4503599627370496 : UInt64)), (.double (4377498837804122112 : UInt64)), (.ref b2_), (.ref u), (.ref b23_), (.ref b23_)])) tT
    exact kK
  obtain ⟨_, _, ⟨T36_, L36_, k36_, n36_⟩, -, X36_, ⟨Lc36_, hQ36_, l36_, y36_, z36_⟩, st36_⟩ := X35_.specialBack hx (y := (⟨"com/example/chains_to_rank/chainstorank/graph/Distribution", "<init>", "([I[DDD)V"⟩ : MethodName)) rfl hown (mvT hZ (hw _ (List.mem_of_getElem? (i := 61) rfl))) (mvT hZ (hw _ (List.mem_of_getElem? (i := 62) rfl))) (mvT hZ (hw _ (List.mem_of_getElem? (i := 63) rfl))) (by decide) (backOf (W := 1) (rm_di2 lL Z a0 hw [] b23_ u b2_ (f e) h23_ n0 (Nat.le_trans Z0 K23_.1) A23_ F23__entities F23__probabilities F23__errorBounds ge_b23_ fc33_ ne27_ n1 n2) hZ (hw _ (List.mem_of_getElem? (i := 63) rfl)) (hw _ (List.mem_of_getElem? (i := 58) rfl)) (by decide) (by decide)) (g := (mkF mM 54 #[.val (.ref a), .val (.ref u), .val (.ref b2_), .val (.int (1 : Int32))] [(.double (4503599627370496 : UInt64)), (.double (4377498837804122112 : UInt64)), (.ref b2_), (.ref u), (.ref b23_), (.ref b23_)])) rfl (by rw [hml]; rfl) (Steps.refl _) (a := b23_) (argsL := [(.ref u), (.ref b2_), (.double (4377498837804122112 : UInt64)), (.double (4503599627370496 : UInt64))]) (rest := [(.ref b23_)]) (lenOf own_pd3 rfl) rfl (by show 2 * 0 + _ ≤ _; exact Nat.le_of_eq rfl) (Jvm.hb hby own_d9_54) (fun _ _ => ⟨rfl, e35_, (by decide : 2 + 1 ≤ _), (by decide : 4 + 1 ≤ _)⟩)
  dsimp only [Pt.U, Pt.locs, Pt.cells, Pt.slots] at X36_ l36_ y36_ z36_ st36_ hQ36_
  subst l36_ y36_ z36_
  obtain ⟨b_36_, rfl, N36_q, p36__0, p36__1, p36__2, p36__3, p36__4, p36__5, p36__6⟩ := hQ36_
  have N36_ := Fr.app N16_ N36_q
  have sz_b_36_ : h0.size ≤ b_36_ := Nat.le_trans K23_.1 p36__1
  have ge_b_36_ : n0 ≤ b_36_ := Nat.le_trans Z0 sz_b_36_
  have ne37_ : a ≠ b_36_ := Nat.ne_of_lt (Nat.lt_of_lt_of_le fc28_.lt p36__1)
  have ne38_ : m ≠ b_36_ := Nat.ne_of_lt (Nat.lt_of_lt_of_le fc31_.lt p36__1)
  have ne39_ : u ≠ b_36_ := Nat.ne_of_lt (Nat.lt_of_lt_of_le fc32_.lt p36__1)
  have ne40_ : b2_ ≠ b_36_ := Nat.ne_of_lt (Nat.lt_of_lt_of_le fc33_.lt p36__1)
  have ne41_ : b23_ ≠ b_36_ := Nat.ne_of_lt (Nat.lt_of_lt_of_le A23_.lt p36__1)
  have fc42_ := fc28_.keep p36__0 (ninS ne24_ nin0)
  have fc43_ := fc29_.keep p36__0 (ninS ne24_ nin0)
  have fc44_ := fc30_.keep p36__0 (ninS ne24_ nin0)
  have fc45_ := fc31_.keep p36__0 (ninS ne25_ nin0)
  have fc46_ := fc32_.keep p36__0 (ninS ne26_ nin0)
  have fc47_ := fc33_.keep p36__0 (ninS ne27_ nin0)
  have fc48_ := A23_.keep p36__0
  have K36_ := K23_.trans p36__0 (allS (Or.inr sz_b23_) all0)
  refine own_fin (fun tT kK => st36_.trans kK) ?_
  show own_Fin pP eE below _ (T36_.setTop (mkF mM 57 #[.val (.ref a), .val (.ref u), .val (.ref b2_), .val (.int (1 : Int32))] [(.ref b23_)]))
  obtain ⟨fs, hr, hrun, hended, hW, hsame⟩ := X36_.leave (v := some (.ref b23_)) (fun h => by rw [Bd.returns] at h; cases h)
  refine ⟨_, _, ?_, hrun, hended, _, _, rfl, ?_, ⟨_, rfl⟩, hW, hsame.mono (by decide) (by decide)⟩
  · show Steps pP.tables eE below (T36_.setTop (mkF mM 57 #[.val (.ref a), .val (.ref u), .val (.ref b2_), .val (.int (1 : Int32))] [(.ref b23_)])) _
    exact retOut X36_ hx Bd.returns rfl (Or.inr (Or.inr (Or.inr (Or.inr ⟨rfl, rfl, rfl⟩)))) (Jvm.hb hby own_d9_57) hr
  · show Q_rm_dist Z a u m e ku f h0 n0 _ T36_.heap _
    exact ⟨b23_, b2_, b_36_, rfl, N36_, K36_, p36__2, p36__3, p36__4, p36__5, p36__6⟩
theorem own_d12_0 : decode prog_27_method_5_code 0 = .ok (.aload_n 0, 1) := by decide +kernel
theorem own_d12_1 : decode prog_27_method_5_code 1 = .ok (.getfield 13, 3) := by decide +kernel
theorem own_d12_4 : decode prog_27_method_5_code 4 = .ok (.iload_n 1, 1) := by decide +kernel
theorem own_d12_5 : decode prog_27_method_5_code 5 = .ok (.daload, 1) := by decide +kernel
theorem own_d12_6 : decode prog_27_method_5_code 6 = .ok (.dreturn, 1) := by decide +kernel
theorem own_ef_rm_probability (mM : MethodId) (x0 : Addr) (x1 : Int32) : entryFrame mM #[(.ref x0), (.int x1)] 2 = mkF mM 0 #[.val (.ref x0), .val (.int x1)] [] := by first | (simp [entryFrame, mkF, argsToLocals, Value.category]; done) | rfl
def Q_rm_probability (Z : State) (a : Addr) (b : Addr) (x : UInt64) (h0 : Heap) (n0 : Nat) (vV : Option Value) (hH : Heap) (lA : List Loc) : Prop := vV = some (.double x) ∧ Fr n0 lA ∧ (hH = h0)
set_option maxRecDepth 65536 in
set_option maxHeartbeats 40000000 in
theorem rm_probability (lL : Launch) (Z : State) (a0 : Array Value) (hw : ∀ d ∈ tables_1, d.before a0 Z = true) (ws : List Jvm.Cond) (a : Addr) (b : Addr) (x : UInt64) (h0 : Heap) (n0 : Nat) (Z0 : n0 ≤ h0.size) (Fp : Fld Z h0 a "com/example/chains_to_rank/chainstorank/graph/Distribution" "probabilities" "[D" (.ref b)) (Tb : own_TD Z h0 b (1 : Int32) (own_upD (fun _ => (0 : UInt64)) (0 : Int32) x)) :
    MetFree lL (⟨"com/example/chains_to_rank/chainstorank/graph/Distribution", "probability", "(I)D"⟩ : MethodName) (head1 (Jvm.Cond.code (⟨"com/example/chains_to_rank/chainstorank/graph/Distribution", "probability", "(I)D"⟩ : MethodName) prog_27_method_5_code 2 (some .double) :: ws) ({ frames := 0, cells := 0, slots := 0, locals := 0 } : Room)) (fun aA uU => aA = #[(.ref a), (.int (0 : Int32))] ∧ Z.Warmed39 uU.vm ∧ uU.heap = h0) (fun _ _ _ _ _ => True) (fun _ uU oO uU' => ∃ vV lA, oO = .returned vV ∧ Q_rm_probability Z a b x h0 n0 vV uU'.heap lA ∧ FrameEnd uU oO uU' lA ({ frames := 0, cells := 0, slots := 0, locals := 0 } : Room).cells ({ frames := 0, cells := 0, slots := 0, locals := 0 } : Room).slots) := by
  refine MetFree.of_bodySF (plainFor_of_name own_pn_com_example_chains_to_rank_chainstorank_graph_Distribution) hisR ?_
  intro pP eE sS mM args below meth cC s₁ Bd hml0 hP hK
  obtain ⟨rfl, hZ, hh⟩ := hP
  have hx := Bd.exec
  have hby := Bd.bytes
  have hml : cC.maxLocals = 2 := hml0
  have hown : sS.vm.findClass "com/example/chains_to_rank/chainstorank/graph/Distribution" = some mM.cls := findClass_of_methodNamed Bd.named
  have hnm := (name_of_methodNamed Bd.named Bd.method).1
  have X0 : Stand pP lL eE ({ frames := 0, cells := 0, slots := 0, locals := 0 } : Room) sS mM #[(.ref a), (.int (0 : Int32))] below meth cC s₁ [] 0 0 := Stand.of_body Bd
  have e0 : s₁.heap = h0 := by rw [← hh, Bd.state]; rfl
  have N0 := Fr.nil n0
  have K0 := Keep.refl h0 ([] : List Addr)
  show own_Fin pP eE below (fun tT oO => ∃ vV lA, oO = .returned vV ∧ Q_rm_probability Z a b x h0 n0 vV tT.heap lA ∧ FrameEnd sS oO tT lA ({ frames := 0, cells := 0, slots := 0, locals := 0 } : Room).cells ({ frames := 0, cells := 0, slots := 0, locals := 0 } : Room).slots) (s₁.setTop (entryFrame mM #[(.ref a), (.int (0 : Int32))] 2))
  refine own_fin (b := s₁.setTop (mkF mM 0 #[.val (.ref a), .val (.int (0 : Int32))] [])) (fun tT kK => castTop (own_ef_rm_probability mM a (0 : Int32)) kK) ?_
  refine own_fin (b := s₁.setTop (mkF mM 1 #[.val (.ref a), .val (.int (0 : Int32))] [(.ref a)])) (fun tT kK => ?_) ?_
  · show Steps pP.tables eE below (s₁.setTop (mkF mM 0 #[.val (.ref a), .val (.int (0 : Int32))] [])) tT
    refine XS.aloadN X0.here hx rfl (Jvm.hb hby own_d12_0) rfl rfl ?_
    show Steps pP.tables eE below (s₁.setTop (mkF mM 1 #[.val (.ref a), .val (.int (0 : Int32))] [(.ref a)])) tT
    exact kK
  obtain ⟨T1_, X1_, e1_, st1_⟩ := getF X0 hx hZ hown (host := "") (Or.inl (hw _ (List.mem_of_getElem? (i := 70) rfl))) Via.refl e0 Fp (g := (mkF mM 1 #[.val (.ref a), .val (.int (0 : Int32))] [(.ref a)])) rfl rfl (Jvm.hb hby own_d12_1)
  refine own_fin st1_ ?_
  show own_Fin pP eE below _ (T1_.setTop (mkF mM 4 #[.val (.ref a), .val (.int (0 : Int32))] [(.ref b)]))
  refine own_fin (b := T1_.setTop (mkF mM 5 #[.val (.ref a), .val (.int (0 : Int32))] [(.int (0 : Int32)), (.ref b)])) (fun tT kK => ?_) ?_
  · show Steps pP.tables eE below (T1_.setTop (mkF mM 4 #[.val (.ref a), .val (.int (0 : Int32))] [(.ref b)])) tT
    refine XS.iloadN X1_.here hx rfl (Jvm.hb hby own_d12_4) rfl ?_
    show Steps pP.tables eE below (T1_.setTop (mkF mM 5 #[.val (.ref a), .val (.int (0 : Int32))] [(.int (0 : Int32)), (.ref b)])) tT
    exact kK
  obtain ⟨cl2_, Ar2_, Sz2_, Nn2_, Hh2_⟩ := id Tb
  have hin2_ : ¬ ((0 : Int32) < 0 ∨ cl2_.slots.size ≤ ((0 : Int32)).toNatClampNeg) := inb_of Sz2_ ⟨by decide, by decide⟩
  have hat2_ : cl2_.slots[((0 : Int32)).toNatClampNeg]? = some (.double ((own_upD (fun _ => (0 : UInt64)) (0 : Int32) x) (0 : Int32))) := Hh2_ _ hin2_
  refine own_fin (b := T1_.setTop (mkF mM 6 #[.val (.ref a), .val (.int (0 : Int32))] [(.double ((own_upD (fun _ => (0 : UInt64)) (0 : Int32) x) (0 : Int32)))])) (fun tT kK => ?_) ?_
  · show Steps pP.tables eE below (T1_.setTop (mkF mM 5 #[.val (.ref a), .val (.int (0 : Int32))] [(.int (0 : Int32)), (.ref b)])) tT
    refine X1_.daload hx (j := (0 : Int32)) (v := (.double ((own_upD (fun _ => (0 : UInt64)) (0 : Int32) x) (0 : Int32)))) (own_rw e1_ Ar2_.1) (State.isArrayOf_alike hZ.alike Ar2_.2.1) Ar2_.2.2 hin2_ hat2_ (g := (mkF mM 5 #[.val (.ref a), .val (.int (0 : Int32))] [(.int (0 : Int32)), (.ref b)])) rfl rfl (Jvm.hb hby own_d12_5) _ ?_
    show Steps pP.tables eE below (T1_.setTop (mkF mM 6 #[.val (.ref a), .val (.int (0 : Int32))] [(.double ((own_upD (fun _ => (0 : UInt64)) (0 : Int32) x) (0 : Int32)))])) tT
    exact kK
  obtain ⟨fs, hr, hrun, hended, hW, hsame⟩ := X1_.leave (v := some (.double ((own_upD (fun _ => (0 : UInt64)) (0 : Int32) x) (0 : Int32)))) (fun h => by rw [Bd.returns] at h; cases h)
  refine ⟨_, _, ?_, hrun, hended, _, _, rfl, ?_, ⟨_, rfl⟩, hW, hsame.mono (by decide) (by decide)⟩
  · show Steps pP.tables eE below (T1_.setTop (mkF mM 6 #[.val (.ref a), .val (.int (0 : Int32))] [(.double ((own_upD (fun _ => (0 : UInt64)) (0 : Int32) x) (0 : Int32)))])) _
    exact retOut X1_ hx Bd.returns rfl (Or.inr (Or.inr (Or.inl ⟨rfl, rfl, _, rfl⟩))) (Jvm.hb hby own_d12_6) hr
  · show Q_rm_probability Z a b x h0 n0 _ T1_.heap _
    rw [e1_]
    exact ⟨rfl, N0, rfl⟩
theorem own_d13_0 : decode prog_27_method_6_code 0 = .ok (.aload_n 0, 1) := by decide +kernel
theorem own_d13_1 : decode prog_27_method_6_code 1 = .ok (.getfield 17, 3) := by decide +kernel
theorem own_d13_4 : decode prog_27_method_6_code 4 = .ok (.iload_n 1, 1) := by decide +kernel
theorem own_d13_5 : decode prog_27_method_6_code 5 = .ok (.daload, 1) := by decide +kernel
theorem own_d13_6 : decode prog_27_method_6_code 6 = .ok (.dreturn, 1) := by decide +kernel
theorem own_ef_rm_errorBound (mM : MethodId) (x0 : Addr) (x1 : Int32) : entryFrame mM #[(.ref x0), (.int x1)] 2 = mkF mM 0 #[.val (.ref x0), .val (.int x1)] [] := by first | (simp [entryFrame, mkF, argsToLocals, Value.category]; done) | rfl
def Q_rm_errorBound (Z : State) (a : Addr) (b : Addr) (x : UInt64) (h0 : Heap) (n0 : Nat) (vV : Option Value) (hH : Heap) (lA : List Loc) : Prop := vV = some (.double x) ∧ Fr n0 lA ∧ (hH = h0)
set_option maxRecDepth 65536 in
set_option maxHeartbeats 40000000 in
theorem rm_errorBound (lL : Launch) (Z : State) (a0 : Array Value) (hw : ∀ d ∈ tables_1, d.before a0 Z = true) (ws : List Jvm.Cond) (a : Addr) (b : Addr) (x : UInt64) (h0 : Heap) (n0 : Nat) (Z0 : n0 ≤ h0.size) (Fp : Fld Z h0 a "com/example/chains_to_rank/chainstorank/graph/Distribution" "errorBounds" "[D" (.ref b)) (Tb : own_TD Z h0 b (1 : Int32) (own_upD (fun _ => (0 : UInt64)) (0 : Int32) x)) :
    MetFree lL (⟨"com/example/chains_to_rank/chainstorank/graph/Distribution", "errorBound", "(I)D"⟩ : MethodName) (head1 (Jvm.Cond.code (⟨"com/example/chains_to_rank/chainstorank/graph/Distribution", "errorBound", "(I)D"⟩ : MethodName) prog_27_method_6_code 2 (some .double) :: ws) ({ frames := 0, cells := 0, slots := 0, locals := 0 } : Room)) (fun aA uU => aA = #[(.ref a), (.int (0 : Int32))] ∧ Z.Warmed39 uU.vm ∧ uU.heap = h0) (fun _ _ _ _ _ => True) (fun _ uU oO uU' => ∃ vV lA, oO = .returned vV ∧ Q_rm_errorBound Z a b x h0 n0 vV uU'.heap lA ∧ FrameEnd uU oO uU' lA ({ frames := 0, cells := 0, slots := 0, locals := 0 } : Room).cells ({ frames := 0, cells := 0, slots := 0, locals := 0 } : Room).slots) := by
  refine MetFree.of_bodySF (plainFor_of_name own_pn_com_example_chains_to_rank_chainstorank_graph_Distribution) hisR ?_
  intro pP eE sS mM args below meth cC s₁ Bd hml0 hP hK
  obtain ⟨rfl, hZ, hh⟩ := hP
  have hx := Bd.exec
  have hby := Bd.bytes
  have hml : cC.maxLocals = 2 := hml0
  have hown : sS.vm.findClass "com/example/chains_to_rank/chainstorank/graph/Distribution" = some mM.cls := findClass_of_methodNamed Bd.named
  have hnm := (name_of_methodNamed Bd.named Bd.method).1
  have X0 : Stand pP lL eE ({ frames := 0, cells := 0, slots := 0, locals := 0 } : Room) sS mM #[(.ref a), (.int (0 : Int32))] below meth cC s₁ [] 0 0 := Stand.of_body Bd
  have e0 : s₁.heap = h0 := by rw [← hh, Bd.state]; rfl
  have N0 := Fr.nil n0
  have K0 := Keep.refl h0 ([] : List Addr)
  show own_Fin pP eE below (fun tT oO => ∃ vV lA, oO = .returned vV ∧ Q_rm_errorBound Z a b x h0 n0 vV tT.heap lA ∧ FrameEnd sS oO tT lA ({ frames := 0, cells := 0, slots := 0, locals := 0 } : Room).cells ({ frames := 0, cells := 0, slots := 0, locals := 0 } : Room).slots) (s₁.setTop (entryFrame mM #[(.ref a), (.int (0 : Int32))] 2))
  refine own_fin (b := s₁.setTop (mkF mM 0 #[.val (.ref a), .val (.int (0 : Int32))] [])) (fun tT kK => castTop (own_ef_rm_errorBound mM a (0 : Int32)) kK) ?_
  refine own_fin (b := s₁.setTop (mkF mM 1 #[.val (.ref a), .val (.int (0 : Int32))] [(.ref a)])) (fun tT kK => ?_) ?_
  · show Steps pP.tables eE below (s₁.setTop (mkF mM 0 #[.val (.ref a), .val (.int (0 : Int32))] [])) tT
    refine XS.aloadN X0.here hx rfl (Jvm.hb hby own_d13_0) rfl rfl ?_
    show Steps pP.tables eE below (s₁.setTop (mkF mM 1 #[.val (.ref a), .val (.int (0 : Int32))] [(.ref a)])) tT
    exact kK
  obtain ⟨T1_, X1_, e1_, st1_⟩ := getF X0 hx hZ hown (host := "") (Or.inl (hw _ (List.mem_of_getElem? (i := 72) rfl))) Via.refl e0 Fp (g := (mkF mM 1 #[.val (.ref a), .val (.int (0 : Int32))] [(.ref a)])) rfl rfl (Jvm.hb hby own_d13_1)
  refine own_fin st1_ ?_
  show own_Fin pP eE below _ (T1_.setTop (mkF mM 4 #[.val (.ref a), .val (.int (0 : Int32))] [(.ref b)]))
  refine own_fin (b := T1_.setTop (mkF mM 5 #[.val (.ref a), .val (.int (0 : Int32))] [(.int (0 : Int32)), (.ref b)])) (fun tT kK => ?_) ?_
  · show Steps pP.tables eE below (T1_.setTop (mkF mM 4 #[.val (.ref a), .val (.int (0 : Int32))] [(.ref b)])) tT
    refine XS.iloadN X1_.here hx rfl (Jvm.hb hby own_d13_4) rfl ?_
    show Steps pP.tables eE below (T1_.setTop (mkF mM 5 #[.val (.ref a), .val (.int (0 : Int32))] [(.int (0 : Int32)), (.ref b)])) tT
    exact kK
  obtain ⟨cl2_, Ar2_, Sz2_, Nn2_, Hh2_⟩ := id Tb
  have hin2_ : ¬ ((0 : Int32) < 0 ∨ cl2_.slots.size ≤ ((0 : Int32)).toNatClampNeg) := inb_of Sz2_ ⟨by decide, by decide⟩
  have hat2_ : cl2_.slots[((0 : Int32)).toNatClampNeg]? = some (.double ((own_upD (fun _ => (0 : UInt64)) (0 : Int32) x) (0 : Int32))) := Hh2_ _ hin2_
  refine own_fin (b := T1_.setTop (mkF mM 6 #[.val (.ref a), .val (.int (0 : Int32))] [(.double ((own_upD (fun _ => (0 : UInt64)) (0 : Int32) x) (0 : Int32)))])) (fun tT kK => ?_) ?_
  · show Steps pP.tables eE below (T1_.setTop (mkF mM 5 #[.val (.ref a), .val (.int (0 : Int32))] [(.int (0 : Int32)), (.ref b)])) tT
    refine X1_.daload hx (j := (0 : Int32)) (v := (.double ((own_upD (fun _ => (0 : UInt64)) (0 : Int32) x) (0 : Int32)))) (own_rw e1_ Ar2_.1) (State.isArrayOf_alike hZ.alike Ar2_.2.1) Ar2_.2.2 hin2_ hat2_ (g := (mkF mM 5 #[.val (.ref a), .val (.int (0 : Int32))] [(.int (0 : Int32)), (.ref b)])) rfl rfl (Jvm.hb hby own_d13_5) _ ?_
    show Steps pP.tables eE below (T1_.setTop (mkF mM 6 #[.val (.ref a), .val (.int (0 : Int32))] [(.double ((own_upD (fun _ => (0 : UInt64)) (0 : Int32) x) (0 : Int32)))])) tT
    exact kK
  obtain ⟨fs, hr, hrun, hended, hW, hsame⟩ := X1_.leave (v := some (.double ((own_upD (fun _ => (0 : UInt64)) (0 : Int32) x) (0 : Int32)))) (fun h => by rw [Bd.returns] at h; cases h)
  refine ⟨_, _, ?_, hrun, hended, _, _, rfl, ?_, ⟨_, rfl⟩, hW, hsame.mono (by decide) (by decide)⟩
  · show Steps pP.tables eE below (T1_.setTop (mkF mM 6 #[.val (.ref a), .val (.int (0 : Int32))] [(.double ((own_upD (fun _ => (0 : UInt64)) (0 : Int32) x) (0 : Int32)))])) _
    exact retOut X1_ hx Bd.returns rfl (Or.inr (Or.inr (Or.inl ⟨rfl, rfl, _, rfl⟩))) (Jvm.hb hby own_d13_6) hr
  · show Q_rm_errorBound Z a b x h0 n0 _ T1_.heap _
    rw [e1_]
    exact ⟨rfl, N0, rfl⟩
def own_St (z : Int32) (f : Int32 → Int32) (s0 s1 s2 s3 : Int32) : Prop := (z = 1 ∨ z = 2 ∨ z = 3 ∨ z = 4) ∧ (∀ j : Int32, ¬ j < 0 ∧ j < z → ¬ f j < 0 ∧ f j < (4 : Int32)) ∧
  (∀ (p : UInt64) (e : Int32), (e = 0 ∨ e = 1 ∨ e = 2 ∨ e = 3) → own_ms f p z.toNatClampNeg e = if (if e = 0 then s0 else (if e = 1 then s1 else (if e = 2 then s2 else s3))) = 0 then 0 else p)
theorem own_spn {z : Int32} (h : z = 1 ∨ z = 2 ∨ z = 3 ∨ z = 4) : NoNaN64 (own_sp z) ∧ NoNaN64 (FP.dmul (own_sp z) (4377498837804122112 : UInt64)) ∧ NoNaN64 (FP.dadd (FP.dmul (own_sp z) (4377498837804122112 : UInt64)) (4503599627370496 : UInt64)) := by
  rcases h with rfl | rfl | rfl | rfl <;> (unfold NoNaN64; decide +kernel)
theorem own_zn : NoNaN64 (0 : UInt64) ∧ NoNaN64 (FP.dmul (0 : UInt64) (4377498837804122112 : UInt64)) ∧ NoNaN64 (FP.dadd (FP.dmul (0 : UInt64) (4377498837804122112 : UInt64)) (4503599627370496 : UInt64)) := by unfold NoNaN64; decide +kernel
theorem own_and3 (k : Int32) : (k &&& (3 : Int32)) = 0 ∨ (k &&& (3 : Int32)) = 1 ∨ (k &&& (3 : Int32)) = 2 ∨ (k &&& (3 : Int32)) = 3 := by
  have h := c_mask k (3 : Int32) 2 (by decide) (by decide)
  simp only [← Int32.toInt_inj]
  rw [show (0 : Int32).toInt = 0 from rfl, show (1 : Int32).toInt = 1 from rfl, show (2 : Int32).toInt = 2 from rfl, show (3 : Int32).toInt = 3 from rfl, h]; omega
theorem own_e4 {e : Int32} (h : e = 0 ∨ e = 1 ∨ e = 2 ∨ e = 3) : ¬ e < 0 ∧ e < (4 : Int32) := by rcases h with rfl | rfl | rfl | rfl <;> decide
theorem own_xn {z : Int32} {x : UInt64} (h : z = 1 ∨ z = 2 ∨ z = 3 ∨ z = 4) {b : Int32} (e : x = if b = (0 : Int32) then (0 : UInt64) else own_sp z) : NoNaN64 x ∧ NoNaN64 (FP.dmul x (4377498837804122112 : UInt64)) ∧ NoNaN64 (FP.dadd (FP.dmul x (4377498837804122112 : UInt64)) (4503599627370496 : UInt64)) := by
  by_cases q : b = (0 : Int32)
  · rw [if_pos q] at e; rw [e]; exact own_zn
  · rw [if_neg q] at e; rw [e]; exact own_spn h
theorem own_b15 (x : Int32) : (((x &&& (2147483647 : Int32)) % (15 : Int32)) + (1 : Int32)) = 1 ∨ (((x &&& (2147483647 : Int32)) % (15 : Int32)) + (1 : Int32)) = 2 ∨ (((x &&& (2147483647 : Int32)) % (15 : Int32)) + (1 : Int32)) = 3 ∨ (((x &&& (2147483647 : Int32)) % (15 : Int32)) + (1 : Int32)) = 4 ∨ (((x &&& (2147483647 : Int32)) % (15 : Int32)) + (1 : Int32)) = 5 ∨ (((x &&& (2147483647 : Int32)) % (15 : Int32)) + (1 : Int32)) = 6 ∨ (((x &&& (2147483647 : Int32)) % (15 : Int32)) + (1 : Int32)) = 7 ∨ (((x &&& (2147483647 : Int32)) % (15 : Int32)) + (1 : Int32)) = 8 ∨ (((x &&& (2147483647 : Int32)) % (15 : Int32)) + (1 : Int32)) = 9 ∨ (((x &&& (2147483647 : Int32)) % (15 : Int32)) + (1 : Int32)) = 10 ∨ (((x &&& (2147483647 : Int32)) % (15 : Int32)) + (1 : Int32)) = 11 ∨ (((x &&& (2147483647 : Int32)) % (15 : Int32)) + (1 : Int32)) = 12 ∨ (((x &&& (2147483647 : Int32)) % (15 : Int32)) + (1 : Int32)) = 13 ∨ (((x &&& (2147483647 : Int32)) % (15 : Int32)) + (1 : Int32)) = 14 ∨ (((x &&& (2147483647 : Int32)) % (15 : Int32)) + (1 : Int32)) = 15 := by
  have m := c_mask x (2147483647 : Int32) 31 (by decide) (by decide)
  have r := (c_irem (x &&& (2147483647 : Int32)) 15 15 rfl).1 (by omega)
  have a := c_iadd ((x &&& (2147483647 : Int32)) % (15 : Int32)) (1 : Int32)
  have g := rng32 (((x &&& (2147483647 : Int32)) % (15 : Int32)) + (1 : Int32))
  rw [show (1 : Int32).toInt = 1 from rfl] at a
  simp only [← Int32.toInt_inj]
  rw [show (1 : Int32).toInt = 1 from rfl, show (2 : Int32).toInt = 2 from rfl, show (3 : Int32).toInt = 3 from rfl, show (4 : Int32).toInt = 4 from rfl, show (5 : Int32).toInt = 5 from rfl, show (6 : Int32).toInt = 6 from rfl, show (7 : Int32).toInt = 7 from rfl, show (8 : Int32).toInt = 8 from rfl, show (9 : Int32).toInt = 9 from rfl, show (10 : Int32).toInt = 10 from rfl, show (11 : Int32).toInt = 11 from rfl, show (12 : Int32).toInt = 12 from rfl, show (13 : Int32).toInt = 13 from rfl, show (14 : Int32).toInt = 14 from rfl, show (15 : Int32).toInt = 15 from rfl]
  omega
theorem own_St1 : own_St (1 : Int32) (own_up (fun _ => (0 : Int32)) (0 : Int32) (0 : Int32)) (1 : Int32) (0 : Int32) (0 : Int32) (0 : Int32) := by
  refine ⟨by decide, ?_, ?_⟩
  · intro j hj
    have hj4 : j = 0 := by
      simp only [Int32.lt_iff_toInt_lt, ← Int32.toInt_inj] at *
      rw [show (0 : Int32).toInt = 0 from rfl, show (1 : Int32).toInt = 1 from rfl] at *
      omega
    rcases hj4 with rfl <;> decide
  · intro p e he
    rcases he with rfl | rfl | rfl | rfl <;> rfl
theorem own_St2 : own_St (1 : Int32) (own_up (fun _ => (0 : Int32)) (0 : Int32) (1 : Int32)) (0 : Int32) (1 : Int32) (0 : Int32) (0 : Int32) := by
  refine ⟨by decide, ?_, ?_⟩
  · intro j hj
    have hj4 : j = 0 := by
      simp only [Int32.lt_iff_toInt_lt, ← Int32.toInt_inj] at *
      rw [show (0 : Int32).toInt = 0 from rfl, show (1 : Int32).toInt = 1 from rfl] at *
      omega
    rcases hj4 with rfl <;> decide
  · intro p e he
    rcases he with rfl | rfl | rfl | rfl <;> rfl
theorem own_St3 : own_St (2 : Int32) (own_up (own_up (fun _ => (0 : Int32)) (0 : Int32) (0 : Int32)) (1 : Int32) (1 : Int32)) (1 : Int32) (1 : Int32) (0 : Int32) (0 : Int32) := by
  refine ⟨by decide, ?_, ?_⟩
  · intro j hj
    have hj4 : j = 0 ∨ j = 1 := by
      simp only [Int32.lt_iff_toInt_lt, ← Int32.toInt_inj] at *
      rw [show (0 : Int32).toInt = 0 from rfl, show (1 : Int32).toInt = 1 from rfl, show (2 : Int32).toInt = 2 from rfl] at *
      omega
    rcases hj4 with rfl | rfl <;> decide
  · intro p e he
    rcases he with rfl | rfl | rfl | rfl <;> rfl
theorem own_St4 : own_St (1 : Int32) (own_up (fun _ => (0 : Int32)) (0 : Int32) (2 : Int32)) (0 : Int32) (0 : Int32) (1 : Int32) (0 : Int32) := by
  refine ⟨by decide, ?_, ?_⟩
  · intro j hj
    have hj4 : j = 0 := by
      simp only [Int32.lt_iff_toInt_lt, ← Int32.toInt_inj] at *
      rw [show (0 : Int32).toInt = 0 from rfl, show (1 : Int32).toInt = 1 from rfl] at *
      omega
    rcases hj4 with rfl <;> decide
  · intro p e he
    rcases he with rfl | rfl | rfl | rfl <;> rfl
theorem own_St5 : own_St (2 : Int32) (own_up (own_up (fun _ => (0 : Int32)) (0 : Int32) (0 : Int32)) (1 : Int32) (2 : Int32)) (1 : Int32) (0 : Int32) (1 : Int32) (0 : Int32) := by
  refine ⟨by decide, ?_, ?_⟩
  · intro j hj
    have hj4 : j = 0 ∨ j = 1 := by
      simp only [Int32.lt_iff_toInt_lt, ← Int32.toInt_inj] at *
      rw [show (0 : Int32).toInt = 0 from rfl, show (1 : Int32).toInt = 1 from rfl, show (2 : Int32).toInt = 2 from rfl] at *
      omega
    rcases hj4 with rfl | rfl <;> decide
  · intro p e he
    rcases he with rfl | rfl | rfl | rfl <;> rfl
theorem own_St6 : own_St (2 : Int32) (own_up (own_up (fun _ => (0 : Int32)) (0 : Int32) (1 : Int32)) (1 : Int32) (2 : Int32)) (0 : Int32) (1 : Int32) (1 : Int32) (0 : Int32) := by
  refine ⟨by decide, ?_, ?_⟩
  · intro j hj
    have hj4 : j = 0 ∨ j = 1 := by
      simp only [Int32.lt_iff_toInt_lt, ← Int32.toInt_inj] at *
      rw [show (0 : Int32).toInt = 0 from rfl, show (1 : Int32).toInt = 1 from rfl, show (2 : Int32).toInt = 2 from rfl] at *
      omega
    rcases hj4 with rfl | rfl <;> decide
  · intro p e he
    rcases he with rfl | rfl | rfl | rfl <;> rfl
theorem own_St7 : own_St (3 : Int32) (own_up (own_up (own_up (fun _ => (0 : Int32)) (0 : Int32) (0 : Int32)) (1 : Int32) (1 : Int32)) (2 : Int32) (2 : Int32)) (1 : Int32) (1 : Int32) (1 : Int32) (0 : Int32) := by
  refine ⟨by decide, ?_, ?_⟩
  · intro j hj
    have hj4 : j = 0 ∨ j = 1 ∨ j = 2 := by
      simp only [Int32.lt_iff_toInt_lt, ← Int32.toInt_inj] at *
      rw [show (0 : Int32).toInt = 0 from rfl, show (1 : Int32).toInt = 1 from rfl, show (2 : Int32).toInt = 2 from rfl, show (3 : Int32).toInt = 3 from rfl] at *
      omega
    rcases hj4 with rfl | rfl | rfl <;> decide
  · intro p e he
    rcases he with rfl | rfl | rfl | rfl <;> rfl
theorem own_St8 : own_St (1 : Int32) (own_up (fun _ => (0 : Int32)) (0 : Int32) (3 : Int32)) (0 : Int32) (0 : Int32) (0 : Int32) (1 : Int32) := by
  refine ⟨by decide, ?_, ?_⟩
  · intro j hj
    have hj4 : j = 0 := by
      simp only [Int32.lt_iff_toInt_lt, ← Int32.toInt_inj] at *
      rw [show (0 : Int32).toInt = 0 from rfl, show (1 : Int32).toInt = 1 from rfl] at *
      omega
    rcases hj4 with rfl <;> decide
  · intro p e he
    rcases he with rfl | rfl | rfl | rfl <;> rfl
theorem own_St9 : own_St (2 : Int32) (own_up (own_up (fun _ => (0 : Int32)) (0 : Int32) (0 : Int32)) (1 : Int32) (3 : Int32)) (1 : Int32) (0 : Int32) (0 : Int32) (1 : Int32) := by
  refine ⟨by decide, ?_, ?_⟩
  · intro j hj
    have hj4 : j = 0 ∨ j = 1 := by
      simp only [Int32.lt_iff_toInt_lt, ← Int32.toInt_inj] at *
      rw [show (0 : Int32).toInt = 0 from rfl, show (1 : Int32).toInt = 1 from rfl, show (2 : Int32).toInt = 2 from rfl] at *
      omega
    rcases hj4 with rfl | rfl <;> decide
  · intro p e he
    rcases he with rfl | rfl | rfl | rfl <;> rfl
theorem own_St10 : own_St (2 : Int32) (own_up (own_up (fun _ => (0 : Int32)) (0 : Int32) (1 : Int32)) (1 : Int32) (3 : Int32)) (0 : Int32) (1 : Int32) (0 : Int32) (1 : Int32) := by
  refine ⟨by decide, ?_, ?_⟩
  · intro j hj
    have hj4 : j = 0 ∨ j = 1 := by
      simp only [Int32.lt_iff_toInt_lt, ← Int32.toInt_inj] at *
      rw [show (0 : Int32).toInt = 0 from rfl, show (1 : Int32).toInt = 1 from rfl, show (2 : Int32).toInt = 2 from rfl] at *
      omega
    rcases hj4 with rfl | rfl <;> decide
  · intro p e he
    rcases he with rfl | rfl | rfl | rfl <;> rfl
theorem own_St11 : own_St (3 : Int32) (own_up (own_up (own_up (fun _ => (0 : Int32)) (0 : Int32) (0 : Int32)) (1 : Int32) (1 : Int32)) (2 : Int32) (3 : Int32)) (1 : Int32) (1 : Int32) (0 : Int32) (1 : Int32) := by
  refine ⟨by decide, ?_, ?_⟩
  · intro j hj
    have hj4 : j = 0 ∨ j = 1 ∨ j = 2 := by
      simp only [Int32.lt_iff_toInt_lt, ← Int32.toInt_inj] at *
      rw [show (0 : Int32).toInt = 0 from rfl, show (1 : Int32).toInt = 1 from rfl, show (2 : Int32).toInt = 2 from rfl, show (3 : Int32).toInt = 3 from rfl] at *
      omega
    rcases hj4 with rfl | rfl | rfl <;> decide
  · intro p e he
    rcases he with rfl | rfl | rfl | rfl <;> rfl
theorem own_St12 : own_St (2 : Int32) (own_up (own_up (fun _ => (0 : Int32)) (0 : Int32) (2 : Int32)) (1 : Int32) (3 : Int32)) (0 : Int32) (0 : Int32) (1 : Int32) (1 : Int32) := by
  refine ⟨by decide, ?_, ?_⟩
  · intro j hj
    have hj4 : j = 0 ∨ j = 1 := by
      simp only [Int32.lt_iff_toInt_lt, ← Int32.toInt_inj] at *
      rw [show (0 : Int32).toInt = 0 from rfl, show (1 : Int32).toInt = 1 from rfl, show (2 : Int32).toInt = 2 from rfl] at *
      omega
    rcases hj4 with rfl | rfl <;> decide
  · intro p e he
    rcases he with rfl | rfl | rfl | rfl <;> rfl
theorem own_St13 : own_St (3 : Int32) (own_up (own_up (own_up (fun _ => (0 : Int32)) (0 : Int32) (0 : Int32)) (1 : Int32) (2 : Int32)) (2 : Int32) (3 : Int32)) (1 : Int32) (0 : Int32) (1 : Int32) (1 : Int32) := by
  refine ⟨by decide, ?_, ?_⟩
  · intro j hj
    have hj4 : j = 0 ∨ j = 1 ∨ j = 2 := by
      simp only [Int32.lt_iff_toInt_lt, ← Int32.toInt_inj] at *
      rw [show (0 : Int32).toInt = 0 from rfl, show (1 : Int32).toInt = 1 from rfl, show (2 : Int32).toInt = 2 from rfl, show (3 : Int32).toInt = 3 from rfl] at *
      omega
    rcases hj4 with rfl | rfl | rfl <;> decide
  · intro p e he
    rcases he with rfl | rfl | rfl | rfl <;> rfl
theorem own_St14 : own_St (3 : Int32) (own_up (own_up (own_up (fun _ => (0 : Int32)) (0 : Int32) (1 : Int32)) (1 : Int32) (2 : Int32)) (2 : Int32) (3 : Int32)) (0 : Int32) (1 : Int32) (1 : Int32) (1 : Int32) := by
  refine ⟨by decide, ?_, ?_⟩
  · intro j hj
    have hj4 : j = 0 ∨ j = 1 ∨ j = 2 := by
      simp only [Int32.lt_iff_toInt_lt, ← Int32.toInt_inj] at *
      rw [show (0 : Int32).toInt = 0 from rfl, show (1 : Int32).toInt = 1 from rfl, show (2 : Int32).toInt = 2 from rfl, show (3 : Int32).toInt = 3 from rfl] at *
      omega
    rcases hj4 with rfl | rfl | rfl <;> decide
  · intro p e he
    rcases he with rfl | rfl | rfl | rfl <;> rfl
theorem own_St15 : own_St (4 : Int32) (own_up (own_up (own_up (own_up (fun _ => (0 : Int32)) (0 : Int32) (0 : Int32)) (1 : Int32) (1 : Int32)) (2 : Int32) (2 : Int32)) (3 : Int32) (3 : Int32)) (1 : Int32) (1 : Int32) (1 : Int32) (1 : Int32) := by
  refine ⟨by decide, ?_, ?_⟩
  · intro j hj
    have hj4 : j = 0 ∨ j = 1 ∨ j = 2 ∨ j = 3 := by
      simp only [Int32.lt_iff_toInt_lt, ← Int32.toInt_inj] at *
      rw [show (0 : Int32).toInt = 0 from rfl, show (1 : Int32).toInt = 1 from rfl, show (2 : Int32).toInt = 2 from rfl, show (3 : Int32).toInt = 3 from rfl, show (4 : Int32).toInt = 4 from rfl] at *
      omega
    rcases hj4 with rfl | rfl | rfl | rfl <;> decide
  · intro p e he
    rcases he with rfl | rfl | rfl | rfl <;> rfl
theorem own_pd4 : parseMethodDescriptor "(I)V" = some ⟨[.int], none⟩ := by decide +kernel
theorem own_pd5 : parseMethodDescriptor "(II)Z" = some ⟨[.int, .int], some .boolean⟩ := by decide +kernel
theorem own_pd6 : parseMethodDescriptor "([I[I)V" = some ⟨[(.array .int), (.array .int)], none⟩ := by decide +kernel
theorem own_pd7 : parseMethodDescriptor "([I)V" = some ⟨[(.array .int)], none⟩ := by decide +kernel
theorem own_pd8 : parseMethodDescriptor "(I)D" = some ⟨[.int], some .double⟩ := by decide +kernel
theorem own_pd9 : parseMethodDescriptor "([I)Lcom/example/chains_to_rank/chainstorank/graph/Distribution;" = some ⟨[(.array .int)], some (.object "com/example/chains_to_rank/chainstorank/graph/Distribution")⟩ := by decide +kernel
theorem own_pn_com_example_chains_to_rank_chainstorank_graph_DoubleArithmeticStartPinLaw : plainName "com/example/chains_to_rank/chainstorank/graph/DoubleArithmeticStartPinLaw" = true := by first | (simp [plainName, overriddenIn]; done) | decide +kernel
theorem own_ef_rm0 (mM : MethodId) (x0 : Int32) (x1 : Int32) (x2 : Int32) (x3 : Int32) : entryFrame mM #[(.int x0), (.int x1), (.int x2), (.int x3)] maxLocals = mkF mM 0 #[.val (.int x0), .val (.int x1), .val (.int x2), .val (.int x3), .unset, .unset, .unset, .unset, .unset, .unset, .unset, .unset, .unset, .unset, .unset, .unset, .unset, .unset, .unset, .unset, .unset, .unset, .unset, .unset] [] := by first | (simp [entryFrame, mkF, argsToLocals, Value.category, maxLocals]; done) | rfl
def Q_rm0 (Z : State) (p1 : Int32) (p2 : Int32) (p3 : Int32) (p4 : Int32) (h0 : Heap) (n0 : Nat) (vV : Option Value) (hH : Heap) (lA : List Loc) : Prop := vV = some (.int (1 : Int32)) ∧ Fr n0 lA
set_option maxRecDepth 65536 in
set_option maxHeartbeats 40000000 in
theorem rm0 (lL : Launch) (Z : State) (a0 : Array Value) (hw : ∀ d ∈ tables_1, d.before a0 Z = true) (ws : List Jvm.Cond) (p1 : Int32) (p2 : Int32) (p3 : Int32) (p4 : Int32) (h0 : Heap) (n0 : Nat) (Z0 : n0 ≤ h0.size) :
    MetFree lL x (head1 (Jvm.Cond.code x code maxLocals ret :: ws) room_1) (fun aA uU => aA = #[(.int p1), (.int p2), (.int p3), (.int p4)] ∧ Z.Warmed39 uU.vm ∧ uU.heap = h0) (fun _ _ _ _ _ => True) (fun _ uU oO uU' => ∃ vV lA, oO = .returned vV ∧ Q_rm0 Z p1 p2 p3 p4 h0 n0 vV uU'.heap lA ∧ FrameEnd uU oO uU' lA room_1.cells room_1.slots) := by
  refine MetFree.of_bodySF (plainFor_of_name own_pn_com_example_chains_to_rank_chainstorank_graph_DoubleArithmeticStartPinLaw) hisR ?_
  intro pP eE sS mM args below meth cC s₁ Bd hml0 hP hK
  obtain ⟨rfl, hZ, hh⟩ := hP
  have hx := Bd.exec
  have hby := Bd.bytes
  have hml : cC.maxLocals = 24 := hml0
  have hown : sS.vm.findClass "com/example/chains_to_rank/chainstorank/graph/DoubleArithmeticStartPinLaw" = some mM.cls := findClass_of_methodNamed Bd.named
  have hnm := (name_of_methodNamed Bd.named Bd.method).1
  have X0 : Stand pP lL eE room_1 sS mM #[(.int p1), (.int p2), (.int p3), (.int p4)] below meth cC s₁ [] 0 0 := Stand.of_body Bd
  have e0 : s₁.heap = h0 := by rw [← hh, Bd.state]; rfl
  have N0 := Fr.nil n0
  have K0 := Keep.refl h0 ([] : List Addr)
  show own_Fin pP eE below (fun tT oO => ∃ vV lA, oO = .returned vV ∧ Q_rm0 Z p1 p2 p3 p4 h0 n0 vV tT.heap lA ∧ FrameEnd sS oO tT lA room_1.cells room_1.slots) (s₁.setTop (entryFrame mM #[(.int p1), (.int p2), (.int p3), (.int p4)] maxLocals))
  refine own_fin (b := s₁.setTop (mkF mM 0 #[.val (.int p1), .val (.int p2), .val (.int p3), .val (.int p4), .unset, .unset, .unset, .unset, .unset, .unset, .unset, .unset, .unset, .unset, .unset, .unset, .unset, .unset, .unset, .unset, .unset, .unset, .unset, .unset] [])) (fun tT kK => castTop (own_ef_rm0 mM p1 p2 p3 p4) kK) ?_
  refine own_fin (b := s₁.setTop (mkF mM 11 #[.val (.int p1), .val (.int p2), .val (.int p3), .val (.int p4), .val (.int (((p1 &&& (2147483647 : Int32)) % (15 : Int32)) + (1 : Int32))), .unset, .unset, .unset, .unset, .unset, .unset, .unset, .unset, .unset, .unset, .unset, .unset, .unset, .unset, .unset, .unset, .unset, .unset, .unset] [])) (fun tT kK => ?_) ?_
  · show Steps pP.tables eE below (s₁.setTop (mkF mM 0 #[.val (.int p1), .val (.int p2), .val (.int p3), .val (.int p4), .unset, .unset, .unset, .unset, .unset, .unset, .unset, .unset, .unset, .unset, .unset, .unset, .unset, .unset, .unset, .unset, .unset, .unset, .unset, .unset] [])) tT
    refine XS.iloadN X0.here hx rfl (Jvm.hb hby at_0) rfl ?_
    show Steps pP.tables eE below (s₁.setTop (mkF mM 1 #[.val (.int p1), .val (.int p2), .val (.int p3), .val (.int p4), .unset, .unset, .unset, .unset, .unset, .unset, .unset, .unset, .unset, .unset, .unset, .unset, .unset, .unset, .unset, .unset, .unset, .unset, .unset, .unset] [(.int p1)])) tT
    refine X0.ldcInt hx hown (mvT hZ (hw _ (List.mem_of_getElem? (i := 0) rfl))) (g := (mkF mM 1 #[.val (.int p1), .val (.int p2), .val (.int p3), .val (.int p4), .unset, .unset, .unset, .unset, .unset, .unset, .unset, .unset, .unset, .unset, .unset, .unset, .unset, .unset, .unset, .unset, .unset, .unset, .unset, .unset] [(.int p1)])) rfl (Jvm.hb hby at_1) _ ?_
    show Steps pP.tables eE below (s₁.setTop (mkF mM 3 #[.val (.int p1), .val (.int p2), .val (.int p3), .val (.int p4), .unset, .unset, .unset, .unset, .unset, .unset, .unset, .unset, .unset, .unset, .unset, .unset, .unset, .unset, .unset, .unset, .unset, .unset, .unset, .unset] [(.int (2147483647 : Int32)), (.int p1)])) tT
    refine XS.iand X0.here hx rfl (Jvm.hb hby at_3) rfl ?_
    show Steps pP.tables eE below (s₁.setTop (mkF mM 4 #[.val (.int p1), .val (.int p2), .val (.int p3), .val (.int p4), .unset, .unset, .unset, .unset, .unset, .unset, .unset, .unset, .unset, .unset, .unset, .unset, .unset, .unset, .unset, .unset, .unset, .unset, .unset, .unset] [(.int (p1 &&& (2147483647 : Int32)))])) tT
    refine XS.bipush X0.here hx rfl (Jvm.hb hby at_4) ?_
    show Steps pP.tables eE below (s₁.setTop (mkF mM 6 #[.val (.int p1), .val (.int p2), .val (.int p3), .val (.int p4), .unset, .unset, .unset, .unset, .unset, .unset, .unset, .unset, .unset, .unset, .unset, .unset, .unset, .unset, .unset, .unset, .unset, .unset, .unset, .unset] [(.int (15 : Int32)), (.int (p1 &&& (2147483647 : Int32)))])) tT
    refine iremM X0 hx rfl (Jvm.hb hby at_6) rfl (by decide) ?_
    show Steps pP.tables eE below (s₁.setTop (mkF mM 7 #[.val (.int p1), .val (.int p2), .val (.int p3), .val (.int p4), .unset, .unset, .unset, .unset, .unset, .unset, .unset, .unset, .unset, .unset, .unset, .unset, .unset, .unset, .unset, .unset, .unset, .unset, .unset, .unset] [(.int ((p1 &&& (2147483647 : Int32)) % (15 : Int32)))])) tT
    refine XS.iconst X0.here hx rfl (Jvm.hb hby at_7) ?_
    show Steps pP.tables eE below (s₁.setTop (mkF mM 8 #[.val (.int p1), .val (.int p2), .val (.int p3), .val (.int p4), .unset, .unset, .unset, .unset, .unset, .unset, .unset, .unset, .unset, .unset, .unset, .unset, .unset, .unset, .unset, .unset, .unset, .unset, .unset, .unset] [(.int (1 : Int32)), (.int ((p1 &&& (2147483647 : Int32)) % (15 : Int32)))])) tT
    refine XS.iadd X0.here hx rfl (Jvm.hb hby at_8) rfl ?_
    show Steps pP.tables eE below (s₁.setTop (mkF mM 9 #[.val (.int p1), .val (.int p2), .val (.int p3), .val (.int p4), .unset, .unset, .unset, .unset, .unset, .unset, .unset, .unset, .unset, .unset, .unset, .unset, .unset, .unset, .unset, .unset, .unset, .unset, .unset, .unset] [(.int (((p1 &&& (2147483647 : Int32)) % (15 : Int32)) + (1 : Int32)))])) tT
    refine XS.istore X0.here hx rfl (Jvm.hb hby at_9) rfl (l' := #[.val (.int p1), .val (.int p2), .val (.int p3), .val (.int p4), .val (.int (((p1 &&& (2147483647 : Int32)) % (15 : Int32)) + (1 : Int32))), .unset, .unset, .unset, .unset, .unset, .unset, .unset, .unset, .unset, .unset, .unset, .unset, .unset, .unset, .unset, .unset, .unset, .unset, .unset]) rfl ?_
    show Steps pP.tables eE below (s₁.setTop (mkF mM 11 #[.val (.int p1), .val (.int p2), .val (.int p3), .val (.int p4), .val (.int (((p1 &&& (2147483647 : Int32)) % (15 : Int32)) + (1 : Int32))), .unset, .unset, .unset, .unset, .unset, .unset, .unset, .unset, .unset, .unset, .unset, .unset, .unset, .unset, .unset, .unset, .unset, .unset, .unset] [])) tT
    exact kK
  show own_Fin pP eE below _ (s₁.setTop (mkF mM 11 #[.val (.int p1), .val (.int p2), .val (.int p3), .val (.int p4), .val (.int (((p1 &&& (2147483647 : Int32)) % (15 : Int32)) + (1 : Int32))), .unset, .unset, .unset, .unset, .unset, .unset, .unset, .unset, .unset, .unset, .unset, .unset, .unset, .unset, .unset, .unset, .unset, .unset, .unset] []))
  generalize hbt : (((p1 &&& (2147483647 : Int32)) % (15 : Int32)) + (1 : Int32)) = bt
  show own_Fin pP eE below _ (s₁.setTop (mkF mM 11 #[.val (.int p1), .val (.int p2), .val (.int p3), .val (.int p4), .val (.int bt), .unset, .unset, .unset, .unset, .unset, .unset, .unset, .unset, .unset, .unset, .unset, .unset, .unset, .unset, .unset, .unset, .unset, .unset, .unset] []))
  have hb := own_b15 p1
  rw [hbt] at hb
  clear hbt
  refine own_fin (b := s₁.setTop (mkF mM 16 #[.val (.int p1), .val (.int p2), .val (.int p3), .val (.int p4), .val (.int bt), .val (.int (p2 &&& (3 : Int32))), .unset, .unset, .unset, .unset, .unset, .unset, .unset, .unset, .unset, .unset, .unset, .unset, .unset, .unset, .unset, .unset, .unset, .unset] [])) (fun tT kK => ?_) ?_
  · show Steps pP.tables eE below (s₁.setTop (mkF mM 11 #[.val (.int p1), .val (.int p2), .val (.int p3), .val (.int p4), .val (.int bt), .unset, .unset, .unset, .unset, .unset, .unset, .unset, .unset, .unset, .unset, .unset, .unset, .unset, .unset, .unset, .unset, .unset, .unset, .unset] [])) tT
    refine XS.iloadN X0.here hx rfl (Jvm.hb hby at_11) rfl ?_
    show Steps pP.tables eE below (s₁.setTop (mkF mM 12 #[.val (.int p1), .val (.int p2), .val (.int p3), .val (.int p4), .val (.int bt), .unset, .unset, .unset, .unset, .unset, .unset, .unset, .unset, .unset, .unset, .unset, .unset, .unset, .unset, .unset, .unset, .unset, .unset, .unset] [(.int p2)])) tT
    refine XS.iconst X0.here hx rfl (Jvm.hb hby at_12) ?_
    show Steps pP.tables eE below (s₁.setTop (mkF mM 13 #[.val (.int p1), .val (.int p2), .val (.int p3), .val (.int p4), .val (.int bt), .unset, .unset, .unset, .unset, .unset, .unset, .unset, .unset, .unset, .unset, .unset, .unset, .unset, .unset, .unset, .unset, .unset, .unset, .unset] [(.int (3 : Int32)), (.int p2)])) tT
    refine XS.iand X0.here hx rfl (Jvm.hb hby at_13) rfl ?_
    show Steps pP.tables eE below (s₁.setTop (mkF mM 14 #[.val (.int p1), .val (.int p2), .val (.int p3), .val (.int p4), .val (.int bt), .unset, .unset, .unset, .unset, .unset, .unset, .unset, .unset, .unset, .unset, .unset, .unset, .unset, .unset, .unset, .unset, .unset, .unset, .unset] [(.int (p2 &&& (3 : Int32)))])) tT
    refine XS.istore X0.here hx rfl (Jvm.hb hby at_14) rfl (l' := #[.val (.int p1), .val (.int p2), .val (.int p3), .val (.int p4), .val (.int bt), .val (.int (p2 &&& (3 : Int32))), .unset, .unset, .unset, .unset, .unset, .unset, .unset, .unset, .unset, .unset, .unset, .unset, .unset, .unset, .unset, .unset, .unset, .unset]) rfl ?_
    show Steps pP.tables eE below (s₁.setTop (mkF mM 16 #[.val (.int p1), .val (.int p2), .val (.int p3), .val (.int p4), .val (.int bt), .val (.int (p2 &&& (3 : Int32))), .unset, .unset, .unset, .unset, .unset, .unset, .unset, .unset, .unset, .unset, .unset, .unset, .unset, .unset, .unset, .unset, .unset, .unset] [])) tT
    exact kK
  show own_Fin pP eE below _ (s₁.setTop (mkF mM 16 #[.val (.int p1), .val (.int p2), .val (.int p3), .val (.int p4), .val (.int bt), .val (.int (p2 &&& (3 : Int32))), .unset, .unset, .unset, .unset, .unset, .unset, .unset, .unset, .unset, .unset, .unset, .unset, .unset, .unset, .unset, .unset, .unset, .unset] []))
  generalize hev : (p2 &&& (3 : Int32)) = ev
  show own_Fin pP eE below _ (s₁.setTop (mkF mM 16 #[.val (.int p1), .val (.int p2), .val (.int p3), .val (.int p4), .val (.int bt), .val (.int ev), .unset, .unset, .unset, .unset, .unset, .unset, .unset, .unset, .unset, .unset, .unset, .unset, .unset, .unset, .unset, .unset, .unset, .unset] []))
  have he := own_and3 p2
  rw [hev] at he
  clear hev
  refine own_fin (b := s₁.setTop (mkF mM 23 #[.val (.int p1), .val (.int p2), .val (.int p3), .val (.int p4), .val (.int bt), .val (.int ev), .val (.int (((p2.toUInt32 >>> ((2 : Int32) &&& 31).toUInt32).toInt32) &&& (3 : Int32))), .unset, .unset, .unset, .unset, .unset, .unset, .unset, .unset, .unset, .unset, .unset, .unset, .unset, .unset, .unset, .unset, .unset] [])) (fun tT kK => ?_) ?_
  · show Steps pP.tables eE below (s₁.setTop (mkF mM 16 #[.val (.int p1), .val (.int p2), .val (.int p3), .val (.int p4), .val (.int bt), .val (.int ev), .unset, .unset, .unset, .unset, .unset, .unset, .unset, .unset, .unset, .unset, .unset, .unset, .unset, .unset, .unset, .unset, .unset, .unset] [])) tT
    refine XS.iloadN X0.here hx rfl (Jvm.hb hby at_16) rfl ?_
    show Steps pP.tables eE below (s₁.setTop (mkF mM 17 #[.val (.int p1), .val (.int p2), .val (.int p3), .val (.int p4), .val (.int bt), .val (.int ev), .unset, .unset, .unset, .unset, .unset, .unset, .unset, .unset, .unset, .unset, .unset, .unset, .unset, .unset, .unset, .unset, .unset, .unset] [(.int p2)])) tT
    refine XS.iconst X0.here hx rfl (Jvm.hb hby at_17) ?_
    show Steps pP.tables eE below (s₁.setTop (mkF mM 18 #[.val (.int p1), .val (.int p2), .val (.int p3), .val (.int p4), .val (.int bt), .val (.int ev), .unset, .unset, .unset, .unset, .unset, .unset, .unset, .unset, .unset, .unset, .unset, .unset, .unset, .unset, .unset, .unset, .unset, .unset] [(.int (2 : Int32)), (.int p2)])) tT
    refine XS.iushr X0.here hx rfl (Jvm.hb hby at_18) rfl ?_
    show Steps pP.tables eE below (s₁.setTop (mkF mM 19 #[.val (.int p1), .val (.int p2), .val (.int p3), .val (.int p4), .val (.int bt), .val (.int ev), .unset, .unset, .unset, .unset, .unset, .unset, .unset, .unset, .unset, .unset, .unset, .unset, .unset, .unset, .unset, .unset, .unset, .unset] [(.int ((p2.toUInt32 >>> ((2 : Int32) &&& 31).toUInt32).toInt32))])) tT
    refine XS.iconst X0.here hx rfl (Jvm.hb hby at_19) ?_
    show Steps pP.tables eE below (s₁.setTop (mkF mM 20 #[.val (.int p1), .val (.int p2), .val (.int p3), .val (.int p4), .val (.int bt), .val (.int ev), .unset, .unset, .unset, .unset, .unset, .unset, .unset, .unset, .unset, .unset, .unset, .unset, .unset, .unset, .unset, .unset, .unset, .unset] [(.int (3 : Int32)), (.int ((p2.toUInt32 >>> ((2 : Int32) &&& 31).toUInt32).toInt32))])) tT
    refine XS.iand X0.here hx rfl (Jvm.hb hby at_20) rfl ?_
    show Steps pP.tables eE below (s₁.setTop (mkF mM 21 #[.val (.int p1), .val (.int p2), .val (.int p3), .val (.int p4), .val (.int bt), .val (.int ev), .unset, .unset, .unset, .unset, .unset, .unset, .unset, .unset, .unset, .unset, .unset, .unset, .unset, .unset, .unset, .unset, .unset, .unset] [(.int (((p2.toUInt32 >>> ((2 : Int32) &&& 31).toUInt32).toInt32) &&& (3 : Int32)))])) tT
    refine XS.istore X0.here hx rfl (Jvm.hb hby at_21) rfl (l' := #[.val (.int p1), .val (.int p2), .val (.int p3), .val (.int p4), .val (.int bt), .val (.int ev), .val (.int (((p2.toUInt32 >>> ((2 : Int32) &&& 31).toUInt32).toInt32) &&& (3 : Int32))), .unset, .unset, .unset, .unset, .unset, .unset, .unset, .unset, .unset, .unset, .unset, .unset, .unset, .unset, .unset, .unset, .unset]) rfl ?_
    show Steps pP.tables eE below (s₁.setTop (mkF mM 23 #[.val (.int p1), .val (.int p2), .val (.int p3), .val (.int p4), .val (.int bt), .val (.int ev), .val (.int (((p2.toUInt32 >>> ((2 : Int32) &&& 31).toUInt32).toInt32) &&& (3 : Int32))), .unset, .unset, .unset, .unset, .unset, .unset, .unset, .unset, .unset, .unset, .unset, .unset, .unset, .unset, .unset, .unset, .unset] [])) tT
    exact kK
  show own_Fin pP eE below _ (s₁.setTop (mkF mM 23 #[.val (.int p1), .val (.int p2), .val (.int p3), .val (.int p4), .val (.int bt), .val (.int ev), .val (.int (((p2.toUInt32 >>> ((2 : Int32) &&& 31).toUInt32).toInt32) &&& (3 : Int32))), .unset, .unset, .unset, .unset, .unset, .unset, .unset, .unset, .unset, .unset, .unset, .unset, .unset, .unset, .unset, .unset, .unset] []))
  generalize htv : (((p2.toUInt32 >>> ((2 : Int32) &&& 31).toUInt32).toInt32) &&& (3 : Int32)) = tv
  show own_Fin pP eE below _ (s₁.setTop (mkF mM 23 #[.val (.int p1), .val (.int p2), .val (.int p3), .val (.int p4), .val (.int bt), .val (.int ev), .val (.int tv), .unset, .unset, .unset, .unset, .unset, .unset, .unset, .unset, .unset, .unset, .unset, .unset, .unset, .unset, .unset, .unset, .unset] []))
  have ht := own_and3 ((p2.toUInt32 >>> ((2 : Int32) &&& 31).toUInt32).toInt32)
  rw [htv] at ht
  clear htv
  have hei := own_e4 he
  have hti := own_e4 ht
  have jp1_ : ∀ (s0 : Int32) (s1 : Int32) (s2 : Int32) (s3 : Int32) (z : Int32) (st : Addr) (f : Int32 → Int32) (s13 : Slot) (Tj1_ : State) (Lj1_ : List Loc) (hj1_ : Heap), (own_St z f s0 s1 s2 s3) → (n0 ≤ st) → Stand pP lL eE room_1 sS mM #[(.int p1), (.int p2), (.int p3), (.int p4)] below meth cC Tj1_ Lj1_ 1 4 → Tj1_.heap = hj1_ → Keep h0 hj1_ ([] : List Addr) → (own_T Z hj1_ st .int z f) → Fr n0 Lj1_ → own_Fin pP eE below (fun tT oO => ∃ vV lA, oO = .returned vV ∧ Q_rm0 Z p1 p2 p3 p4 h0 n0 vV tT.heap lA ∧ FrameEnd sS oO tT lA room_1.cells room_1.slots) (Tj1_.setTop (mkF mM 190 #[.val (.int p1), .val (.int p2), .val (.int p3), .val (.int p4), .val (.int bt), .val (.int ev), .val (.int tv), .val (.int s0), .val (.int s1), .val (.int s2), .val (.int s3), .val (.int z), .val (.ref st), s13, .unset, .unset, .unset, .unset, .unset, .unset, .unset, .unset, .unset, .unset] [])) := by
    intro s0 s1 s2 s3 z st f s13 Tj1_ Lj1_ hj1_ hSt gst Xj1_ ej1_ Kj1_ fj1__0 Nj1_
    show own_Fin pP eE below _ (Tj1_.setTop (mkF mM 190 #[.val (.int p1), .val (.int p2), .val (.int p3), .val (.int p4), .val (.int bt), .val (.int ev), .val (.int tv), .val (.int s0), .val (.int s1), .val (.int s2), .val (.int s3), .val (.int z), .val (.ref st), s13, .unset, .unset, .unset, .unset, .unset, .unset, .unset, .unset, .unset, .unset] []))
    refine own_fin (b := Tj1_.setTop (mkF mM 191 #[.val (.int p1), .val (.int p2), .val (.int p3), .val (.int p4), .val (.int bt), .val (.int ev), .val (.int tv), .val (.int s0), .val (.int s1), .val (.int s2), .val (.int s3), .val (.int z), .val (.ref st), s13, .unset, .unset, .unset, .unset, .unset, .unset, .unset, .unset, .unset, .unset] [(.int (0 : Int32))])) (fun tT kK => ?_) ?_
    · show Steps pP.tables eE below (Tj1_.setTop (mkF mM 190 #[.val (.int p1), .val (.int p2), .val (.int p3), .val (.int p4), .val (.int bt), .val (.int ev), .val (.int tv), .val (.int s0), .val (.int s1), .val (.int s2), .val (.int s3), .val (.int z), .val (.ref st), s13, .unset, .unset, .unset, .unset, .unset, .unset, .unset, .unset, .unset, .unset] [])) tT
      refine XS.iconst Xj1_.here hx rfl (Jvm.hb hby at_190) ?_
      show Steps pP.tables eE below (Tj1_.setTop (mkF mM 191 #[.val (.int p1), .val (.int p2), .val (.int p3), .val (.int p4), .val (.int bt), .val (.int ev), .val (.int tv), .val (.int s0), .val (.int s1), .val (.int s2), .val (.int s3), .val (.int z), .val (.ref st), s13, .unset, .unset, .unset, .unset, .unset, .unset, .unset, .unset, .unset, .unset] [(.int (0 : Int32))])) tT
      exact kK
    obtain ⟨T2_, h2_, k2_, X2_, e2_, E2_, A2_, st2_⟩ := newP Xj1_ hx hZ (hw _ (List.mem_of_getElem? (i := 1) rfl)) ej1_ (g := (mkF mM 191 #[.val (.int p1), .val (.int p2), .val (.int p3), .val (.int p4), .val (.int bt), .val (.int ev), .val (.int tv), .val (.int s0), .val (.int s1), .val (.int s2), .val (.int s3), .val (.int z), .val (.ref st), s13, .unset, .unset, .unset, .unset, .unset, .unset, .unset, .unset, .unset, .unset] [(.int (0 : Int32))])) rfl (Jvm.hb hby at_191) rfl (by decide) (cap := 0) (by decide) (by decide) (by decide) (by decide)
    obtain ⟨b2_, g2_⟩ : ∃ z, z = hj1_.size := ⟨_, rfl⟩
    rw [← g2_] at A2_ st2_
    have sz_b2_ : h0.size ≤ b2_ := Nat.le_trans Kj1_.1 (Nat.le_of_eq g2_.symm)
    have ge_b2_ : n0 ≤ b2_ := Nat.le_trans Z0 sz_b2_
    have ne3_ : st ≠ b2_ := Nat.ne_of_lt (Nat.lt_of_lt_of_le fj1__0.lt (Nat.le_of_eq g2_.symm))
    have fc4_ := fj1__0.ext E2_
    have K2_ := Kj1_.ext E2_
    have V2_ : Arv Z h2_ b2_ k2_ .int (0 : Int32) [] (.int (0 : Int32)) := Arv.new A2_ (by decide)
    refine own_fin st2_ ?_
    show own_Fin pP eE below _ (T2_.setTop (mkF mM 193 #[.val (.int p1), .val (.int p2), .val (.int p3), .val (.int p4), .val (.int bt), .val (.int ev), .val (.int tv), .val (.int s0), .val (.int s1), .val (.int s2), .val (.int s3), .val (.int z), .val (.ref st), s13, .unset, .unset, .unset, .unset, .unset, .unset, .unset, .unset, .unset, .unset] [(.ref b2_)]))
    refine own_fin (b := T2_.setTop (mkF mM 196 #[.val (.int p1), .val (.int p2), .val (.int p3), .val (.int p4), .val (.int bt), .val (.int ev), .val (.int tv), .val (.int s0), .val (.int s1), .val (.int s2), .val (.int s3), .val (.int z), .val (.ref st), s13, .val (.ref b2_), .unset, .unset, .unset, .unset, .unset, .unset, .unset, .unset, .unset] [(.int (0 : Int32))])) (fun tT kK => ?_) ?_
    · show Steps pP.tables eE below (T2_.setTop (mkF mM 193 #[.val (.int p1), .val (.int p2), .val (.int p3), .val (.int p4), .val (.int bt), .val (.int ev), .val (.int tv), .val (.int s0), .val (.int s1), .val (.int s2), .val (.int s3), .val (.int z), .val (.ref st), s13, .unset, .unset, .unset, .unset, .unset, .unset, .unset, .unset, .unset, .unset] [(.ref b2_)])) tT
      refine XS.astore X2_.here hx rfl (Jvm.hb hby at_193) rfl rfl (l' := #[.val (.int p1), .val (.int p2), .val (.int p3), .val (.int p4), .val (.int bt), .val (.int ev), .val (.int tv), .val (.int s0), .val (.int s1), .val (.int s2), .val (.int s3), .val (.int z), .val (.ref st), s13, .val (.ref b2_), .unset, .unset, .unset, .unset, .unset, .unset, .unset, .unset, .unset]) rfl ?_
      show Steps pP.tables eE below (T2_.setTop (mkF mM 195 #[.val (.int p1), .val (.int p2), .val (.int p3), .val (.int p4), .val (.int bt), .val (.int ev), .val (.int tv), .val (.int s0), .val (.int s1), .val (.int s2), .val (.int s3), .val (.int z), .val (.ref st), s13, .val (.ref b2_), .unset, .unset, .unset, .unset, .unset, .unset, .unset, .unset, .unset] [])) tT
      refine XS.iconst X2_.here hx rfl (Jvm.hb hby at_195) ?_
      show Steps pP.tables eE below (T2_.setTop (mkF mM 196 #[.val (.int p1), .val (.int p2), .val (.int p3), .val (.int p4), .val (.int bt), .val (.int ev), .val (.int tv), .val (.int s0), .val (.int s1), .val (.int s2), .val (.int s3), .val (.int z), .val (.ref st), s13, .val (.ref b2_), .unset, .unset, .unset, .unset, .unset, .unset, .unset, .unset, .unset] [(.int (0 : Int32))])) tT
      exact kK
    obtain ⟨T5_, h5_, k5_, X5_, e5_, E5_, A5_, st5_⟩ := newP X2_ hx hZ (hw _ (List.mem_of_getElem? (i := 1) rfl)) e2_ (g := (mkF mM 196 #[.val (.int p1), .val (.int p2), .val (.int p3), .val (.int p4), .val (.int bt), .val (.int ev), .val (.int tv), .val (.int s0), .val (.int s1), .val (.int s2), .val (.int s3), .val (.int z), .val (.ref st), s13, .val (.ref b2_), .unset, .unset, .unset, .unset, .unset, .unset, .unset, .unset, .unset] [(.int (0 : Int32))])) rfl (Jvm.hb hby at_196) rfl (by decide) (cap := 0) (by decide) (by decide) (by decide) (by decide)
    obtain ⟨b5_, g5_⟩ : ∃ z, z = h2_.size := ⟨_, rfl⟩
    rw [← g5_] at A5_ st5_
    have sz_b5_ : h0.size ≤ b5_ := Nat.le_trans K2_.1 (Nat.le_of_eq g5_.symm)
    have ge_b5_ : n0 ≤ b5_ := Nat.le_trans Z0 sz_b5_
    have ne6_ : st ≠ b5_ := Nat.ne_of_lt (Nat.lt_of_lt_of_le fc4_.lt (Nat.le_of_eq g5_.symm))
    have ne7_ : b2_ ≠ b5_ := Nat.ne_of_lt (Nat.lt_of_lt_of_le V2_.lt (Nat.le_of_eq g5_.symm))
    have fc8_ := fc4_.ext E5_
    have fc9_ := V2_.ext E5_
    have K5_ := K2_.ext E5_
    have V5_ : Arv Z h5_ b5_ k5_ .int (0 : Int32) [] (.int (0 : Int32)) := Arv.new A5_ (by decide)
    refine own_fin st5_ ?_
    show own_Fin pP eE below _ (T5_.setTop (mkF mM 198 #[.val (.int p1), .val (.int p2), .val (.int p3), .val (.int p4), .val (.int bt), .val (.int ev), .val (.int tv), .val (.int s0), .val (.int s1), .val (.int s2), .val (.int s3), .val (.int z), .val (.ref st), s13, .val (.ref b2_), .unset, .unset, .unset, .unset, .unset, .unset, .unset, .unset, .unset] [(.ref b5_)]))
    refine own_fin (b := T5_.setTop (mkF mM 201 #[.val (.int p1), .val (.int p2), .val (.int p3), .val (.int p4), .val (.int bt), .val (.int ev), .val (.int tv), .val (.int s0), .val (.int s1), .val (.int s2), .val (.int s3), .val (.int z), .val (.ref st), s13, .val (.ref b2_), .val (.ref b5_), .unset, .unset, .unset, .unset, .unset, .unset, .unset, .unset] [(.int (1 : Int32))])) (fun tT kK => ?_) ?_
    · show Steps pP.tables eE below (T5_.setTop (mkF mM 198 #[.val (.int p1), .val (.int p2), .val (.int p3), .val (.int p4), .val (.int bt), .val (.int ev), .val (.int tv), .val (.int s0), .val (.int s1), .val (.int s2), .val (.int s3), .val (.int z), .val (.ref st), s13, .val (.ref b2_), .unset, .unset, .unset, .unset, .unset, .unset, .unset, .unset, .unset] [(.ref b5_)])) tT
      refine XS.astore X5_.here hx rfl (Jvm.hb hby at_198) rfl rfl (l' := #[.val (.int p1), .val (.int p2), .val (.int p3), .val (.int p4), .val (.int bt), .val (.int ev), .val (.int tv), .val (.int s0), .val (.int s1), .val (.int s2), .val (.int s3), .val (.int z), .val (.ref st), s13, .val (.ref b2_), .val (.ref b5_), .unset, .unset, .unset, .unset, .unset, .unset, .unset, .unset]) rfl ?_
      show Steps pP.tables eE below (T5_.setTop (mkF mM 200 #[.val (.int p1), .val (.int p2), .val (.int p3), .val (.int p4), .val (.int bt), .val (.int ev), .val (.int tv), .val (.int s0), .val (.int s1), .val (.int s2), .val (.int s3), .val (.int z), .val (.ref st), s13, .val (.ref b2_), .val (.ref b5_), .unset, .unset, .unset, .unset, .unset, .unset, .unset, .unset] [])) tT
      refine XS.iconst X5_.here hx rfl (Jvm.hb hby at_200) ?_
      show Steps pP.tables eE below (T5_.setTop (mkF mM 201 #[.val (.int p1), .val (.int p2), .val (.int p3), .val (.int p4), .val (.int bt), .val (.int ev), .val (.int tv), .val (.int s0), .val (.int s1), .val (.int s2), .val (.int s3), .val (.int z), .val (.ref st), s13, .val (.ref b2_), .val (.ref b5_), .unset, .unset, .unset, .unset, .unset, .unset, .unset, .unset] [(.int (1 : Int32))])) tT
      exact kK
    obtain ⟨T10_, h10_, k10_, X10_, e10_, E10_, A10_, st10_⟩ := newP X5_ hx hZ (hw _ (List.mem_of_getElem? (i := 1) rfl)) e5_ (g := (mkF mM 201 #[.val (.int p1), .val (.int p2), .val (.int p3), .val (.int p4), .val (.int bt), .val (.int ev), .val (.int tv), .val (.int s0), .val (.int s1), .val (.int s2), .val (.int s3), .val (.int z), .val (.ref st), s13, .val (.ref b2_), .val (.ref b5_), .unset, .unset, .unset, .unset, .unset, .unset, .unset, .unset] [(.int (1 : Int32))])) rfl (Jvm.hb hby at_201) rfl (by decide) (cap := 1) (by decide) (by decide) (by decide) (by decide)
    obtain ⟨b10_, g10_⟩ : ∃ z, z = h5_.size := ⟨_, rfl⟩
    rw [← g10_] at A10_ st10_
    have sz_b10_ : h0.size ≤ b10_ := Nat.le_trans K5_.1 (Nat.le_of_eq g10_.symm)
    have ge_b10_ : n0 ≤ b10_ := Nat.le_trans Z0 sz_b10_
    have ne11_ : st ≠ b10_ := Nat.ne_of_lt (Nat.lt_of_lt_of_le fc8_.lt (Nat.le_of_eq g10_.symm))
    have ne12_ : b2_ ≠ b10_ := Nat.ne_of_lt (Nat.lt_of_lt_of_le fc9_.lt (Nat.le_of_eq g10_.symm))
    have ne13_ : b5_ ≠ b10_ := Nat.ne_of_lt (Nat.lt_of_lt_of_le V5_.lt (Nat.le_of_eq g10_.symm))
    have fc14_ := fc8_.ext E10_
    have fc15_ := fc9_.ext E10_
    have fc16_ := V5_.ext E10_
    have K10_ := K5_.ext E10_
    have V10_ : Arv Z h10_ b10_ k10_ .int (1 : Int32) [(.int (0 : Int32))] (.int (0 : Int32)) := (Arv.new A10_ (by decide)).pad (pad_rep [] (.int (0 : Int32)) 1)
    refine own_fin st10_ ?_
    show own_Fin pP eE below _ (T10_.setTop (mkF mM 203 #[.val (.int p1), .val (.int p2), .val (.int p3), .val (.int p4), .val (.int bt), .val (.int ev), .val (.int tv), .val (.int s0), .val (.int s1), .val (.int s2), .val (.int s3), .val (.int z), .val (.ref st), s13, .val (.ref b2_), .val (.ref b5_), .unset, .unset, .unset, .unset, .unset, .unset, .unset, .unset] [(.ref b10_)]))
    refine own_fin (b := T10_.setTop (mkF mM 207 #[.val (.int p1), .val (.int p2), .val (.int p3), .val (.int p4), .val (.int bt), .val (.int ev), .val (.int tv), .val (.int s0), .val (.int s1), .val (.int s2), .val (.int s3), .val (.int z), .val (.ref st), s13, .val (.ref b2_), .val (.ref b5_), .unset, .unset, .unset, .unset, .unset, .unset, .unset, .unset] [(.int ev), (.int (0 : Int32)), (.ref b10_), (.ref b10_)])) (fun tT kK => ?_) ?_
    · show Steps pP.tables eE below (T10_.setTop (mkF mM 203 #[.val (.int p1), .val (.int p2), .val (.int p3), .val (.int p4), .val (.int bt), .val (.int ev), .val (.int tv), .val (.int s0), .val (.int s1), .val (.int s2), .val (.int s3), .val (.int z), .val (.ref st), s13, .val (.ref b2_), .val (.ref b5_), .unset, .unset, .unset, .unset, .unset, .unset, .unset, .unset] [(.ref b10_)])) tT
      refine XS.dup X10_.here hx rfl (Jvm.hb hby at_203) rfl rfl ?_
      show Steps pP.tables eE below (T10_.setTop (mkF mM 204 #[.val (.int p1), .val (.int p2), .val (.int p3), .val (.int p4), .val (.int bt), .val (.int ev), .val (.int tv), .val (.int s0), .val (.int s1), .val (.int s2), .val (.int s3), .val (.int z), .val (.ref st), s13, .val (.ref b2_), .val (.ref b5_), .unset, .unset, .unset, .unset, .unset, .unset, .unset, .unset] [(.ref b10_), (.ref b10_)])) tT
      refine XS.iconst X10_.here hx rfl (Jvm.hb hby at_204) ?_
      show Steps pP.tables eE below (T10_.setTop (mkF mM 205 #[.val (.int p1), .val (.int p2), .val (.int p3), .val (.int p4), .val (.int bt), .val (.int ev), .val (.int tv), .val (.int s0), .val (.int s1), .val (.int s2), .val (.int s3), .val (.int z), .val (.ref st), s13, .val (.ref b2_), .val (.ref b5_), .unset, .unset, .unset, .unset, .unset, .unset, .unset, .unset] [(.int (0 : Int32)), (.ref b10_), (.ref b10_)])) tT
      refine XS.iload X10_.here hx rfl (Jvm.hb hby at_205) rfl ?_
      show Steps pP.tables eE below (T10_.setTop (mkF mM 207 #[.val (.int p1), .val (.int p2), .val (.int p3), .val (.int p4), .val (.int bt), .val (.int ev), .val (.int tv), .val (.int s0), .val (.int s1), .val (.int s2), .val (.int s3), .val (.int z), .val (.ref st), s13, .val (.ref b2_), .val (.ref b5_), .unset, .unset, .unset, .unset, .unset, .unset, .unset, .unset] [(.int ev), (.int (0 : Int32)), (.ref b10_), (.ref b10_)])) tT
      exact kK
    obtain ⟨cl17_, Ar17_, qk17_, Sz17_, Nn17_, Hh17_, Gg17_⟩ := id V10_
    have hin18_ : ¬ ((0 : Int32) < 0 ∨ cl17_.slots.size ≤ ((0 : Int32)).toNatClampNeg) := inb_of Sz17_ ⟨by decide, by decide⟩
    obtain ⟨T18_, h18_, X18_, e18_, W18_, st18_⟩ := stI X10_ hx hZ e10_ Ar17_ (j := (0 : Int32)) hin18_ (g := (mkF mM 207 #[.val (.int p1), .val (.int p2), .val (.int p3), .val (.int p4), .val (.int bt), .val (.int ev), .val (.int tv), .val (.int s0), .val (.int s1), .val (.int s2), .val (.int s3), .val (.int z), .val (.ref st), s13, .val (.ref b2_), .val (.ref b5_), .unset, .unset, .unset, .unset, .unset, .unset, .unset, .unset] [(.int ev), (.int (0 : Int32)), (.ref b10_), (.ref b10_)])) rfl rfl (Jvm.hb hby at_207)
    have V18_ : Arv Z h18_ b10_ k10_ .int (1 : Int32) [(.int ev)] (.int (0 : Int32)) := Arv.set Ar17_ qk17_ Sz17_ Nn17_ Hh17_ Gg17_ rfl W18_ 0 rfl (Nat.le_of_ble_eq_true rfl)
    have fc19_ := fc14_.other W18_ ne11_
    have fc20_ := fc15_.other W18_ ne12_
    have fc21_ := fc16_.other W18_ ne13_
    have K18_ := K10_.wr W18_ (Or.inr sz_b10_)
    have N18_ := Fr.snoc X18_ Nj1_ ge_b10_
    refine own_fin st18_ ?_
    show own_Fin pP eE below _ (T18_.setTop (mkF mM 208 #[.val (.int p1), .val (.int p2), .val (.int p3), .val (.int p4), .val (.int bt), .val (.int ev), .val (.int tv), .val (.int s0), .val (.int s1), .val (.int s2), .val (.int s3), .val (.int z), .val (.ref st), s13, .val (.ref b2_), .val (.ref b5_), .unset, .unset, .unset, .unset, .unset, .unset, .unset, .unset] [(.ref b10_)]))
    refine own_fin (b := T18_.setTop (mkF mM 210 #[.val (.int p1), .val (.int p2), .val (.int p3), .val (.int p4), .val (.int bt), .val (.int ev), .val (.int tv), .val (.int s0), .val (.int s1), .val (.int s2), .val (.int s3), .val (.int z), .val (.ref st), s13, .val (.ref b2_), .val (.ref b5_), .val (.ref b10_), .unset, .unset, .unset, .unset, .unset, .unset, .unset] [])) (fun tT kK => ?_) ?_
    · show Steps pP.tables eE below (T18_.setTop (mkF mM 208 #[.val (.int p1), .val (.int p2), .val (.int p3), .val (.int p4), .val (.int bt), .val (.int ev), .val (.int tv), .val (.int s0), .val (.int s1), .val (.int s2), .val (.int s3), .val (.int z), .val (.ref st), s13, .val (.ref b2_), .val (.ref b5_), .unset, .unset, .unset, .unset, .unset, .unset, .unset, .unset] [(.ref b10_)])) tT
      refine XS.astore X18_.here hx rfl (Jvm.hb hby at_208) rfl rfl (l' := #[.val (.int p1), .val (.int p2), .val (.int p3), .val (.int p4), .val (.int bt), .val (.int ev), .val (.int tv), .val (.int s0), .val (.int s1), .val (.int s2), .val (.int s3), .val (.int z), .val (.ref st), s13, .val (.ref b2_), .val (.ref b5_), .val (.ref b10_), .unset, .unset, .unset, .unset, .unset, .unset, .unset]) rfl ?_
      show Steps pP.tables eE below (T18_.setTop (mkF mM 210 #[.val (.int p1), .val (.int p2), .val (.int p3), .val (.int p4), .val (.int bt), .val (.int ev), .val (.int tv), .val (.int s0), .val (.int s1), .val (.int s2), .val (.int s3), .val (.int z), .val (.ref st), s13, .val (.ref b2_), .val (.ref b5_), .val (.ref b10_), .unset, .unset, .unset, .unset, .unset, .unset, .unset] [])) tT
      exact kK
    obtain ⟨T22_, h22_, X22_, e22_, E22_, A22_, D22_, -, st22_⟩ := newO X18_ hx hZ hown (hw _ (List.mem_of_getElem? (i := 2) rfl)) (hw _ (List.mem_of_getElem? (i := 3) rfl)) (hw _ (List.mem_of_getElem? (i := 4) rfl)) e18_ (g := (mkF mM 210 #[.val (.int p1), .val (.int p2), .val (.int p3), .val (.int p4), .val (.int bt), .val (.int ev), .val (.int tv), .val (.int s0), .val (.int s1), .val (.int s2), .val (.int s3), .val (.int z), .val (.ref st), s13, .val (.ref b2_), .val (.ref b5_), .val (.ref b10_), .unset, .unset, .unset, .unset, .unset, .unset, .unset] [])) rfl (Jvm.hb hby at_210) (by decide) (by decide)
    obtain ⟨b22_, g22_⟩ : ∃ z, z = h18_.size := ⟨_, rfl⟩
    rw [← g22_] at A22_ D22_ st22_
    have sz_b22_ : h0.size ≤ b22_ := Nat.le_trans K18_.1 (Nat.le_of_eq g22_.symm)
    have ge_b22_ : n0 ≤ b22_ := Nat.le_trans Z0 sz_b22_
    have ne23_ : st ≠ b22_ := Nat.ne_of_lt (Nat.lt_of_lt_of_le fc19_.lt (Nat.le_of_eq g22_.symm))
    have ne24_ : b2_ ≠ b22_ := Nat.ne_of_lt (Nat.lt_of_lt_of_le fc20_.lt (Nat.le_of_eq g22_.symm))
    have ne25_ : b5_ ≠ b22_ := Nat.ne_of_lt (Nat.lt_of_lt_of_le fc21_.lt (Nat.le_of_eq g22_.symm))
    have ne26_ : b10_ ≠ b22_ := Nat.ne_of_lt (Nat.lt_of_lt_of_le V18_.lt (Nat.le_of_eq g22_.symm))
    have fc27_ := fc19_.ext E22_
    have fc28_ := fc20_.ext E22_
    have fc29_ := fc21_.ext E22_
    have fc30_ := V18_.ext E22_
    have K22_ := K18_.ext E22_
    have F22__mass : Fld Z h22_ b22_ "com/example/chains_to_rank/chainstorank/graph/DoubleArithmetic" "mass" "[D" .null := D22_ (Or.inr (hw _ (List.mem_of_getElem? (i := 13) rfl))) (ty := (.array .double)) (by decide)
    have F22__share : Fld Z h22_ b22_ "com/example/chains_to_rank/chainstorank/graph/DoubleArithmetic" "share" "[D" .null := D22_ (Or.inr (hw _ (List.mem_of_getElem? (i := 15) rfl))) (ty := (.array .double)) (by decide)
    have F22__arriving : Fld Z h22_ b22_ "com/example/chains_to_rank/chainstorank/graph/DoubleArithmetic" "arriving" "[D" .null := D22_ (Or.inr (hw _ (List.mem_of_getElem? (i := 17) rfl))) (ty := (.array .double)) (by decide)
    have F22__mostShares : Fld Z h22_ b22_ "com/example/chains_to_rank/chainstorank/graph/DoubleArithmetic" "mostShares" "I" (.int (0 : Int32)) := D22_ (Or.inl (hw _ (List.mem_of_getElem? (i := 24) rfl))) (ty := .int) (by decide)
    have F22__roundings : Fld Z h22_ b22_ "com/example/chains_to_rank/chainstorank/graph/DoubleArithmetic" "roundings" "J" (.long (0 : Int64)) := D22_ (Or.inl (hw _ (List.mem_of_getElem? (i := 40) rfl))) (ty := .long) (by decide)
    refine own_fin st22_ ?_
    show own_Fin pP eE below _ (T22_.setTop (mkF mM 213 #[.val (.int p1), .val (.int p2), .val (.int p3), .val (.int p4), .val (.int bt), .val (.int ev), .val (.int tv), .val (.int s0), .val (.int s1), .val (.int s2), .val (.int s3), .val (.int z), .val (.ref st), s13, .val (.ref b2_), .val (.ref b5_), .val (.ref b10_), .unset, .unset, .unset, .unset, .unset, .unset, .unset] [(.ref b22_)]))
    refine own_fin (b := T22_.setTop (mkF mM 215 #[.val (.int p1), .val (.int p2), .val (.int p3), .val (.int p4), .val (.int bt), .val (.int ev), .val (.int tv), .val (.int s0), .val (.int s1), .val (.int s2), .val (.int s3), .val (.int z), .val (.ref st), s13, .val (.ref b2_), .val (.ref b5_), .val (.ref b10_), .unset, .unset, .unset, .unset, .unset, .unset, .unset] [(.int (4 : Int32)), (.ref b22_), (.ref b22_)])) (fun tT kK => ?_) ?_
    · show Steps pP.tables eE below (T22_.setTop (mkF mM 213 #[.val (.int p1), .val (.int p2), .val (.int p3), .val (.int p4), .val (.int bt), .val (.int ev), .val (.int tv), .val (.int s0), .val (.int s1), .val (.int s2), .val (.int s3), .val (.int z), .val (.ref st), s13, .val (.ref b2_), .val (.ref b5_), .val (.ref b10_), .unset, .unset, .unset, .unset, .unset, .unset, .unset] [(.ref b22_)])) tT
      refine XS.dup X22_.here hx rfl (Jvm.hb hby at_213) rfl rfl ?_
      show Steps pP.tables eE below (T22_.setTop (mkF mM 214 #[.val (.int p1), .val (.int p2), .val (.int p3), .val (.int p4), .val (.int bt), .val (.int ev), .val (.int tv), .val (.int s0), .val (.int s1), .val (.int s2), .val (.int s3), .val (.int z), .val (.ref st), s13, .val (.ref b2_), .val (.ref b5_), .val (.ref b10_), .unset, .unset, .unset, .unset, .unset, .unset, .unset] [(.ref b22_), (.ref b22_)])) tT
      refine XS.iconst X22_.here hx rfl (Jvm.hb hby at_214) ?_
      show Steps pP.tables eE below (T22_.setTop (mkF mM 215 #[.val (.int p1), .val (.int p2), .val (.int p3), .val (.int p4), .val (.int bt), .val (.int ev), .val (.int tv), .val (.int s0), .val (.int s1), .val (.int s2), .val (.int s3), .val (.int z), .val (.ref st), s13, .val (.ref b2_), .val (.ref b5_), .val (.ref b10_), .unset, .unset, .unset, .unset, .unset, .unset, .unset] [(.int (4 : Int32)), (.ref b22_), (.ref b22_)])) tT
      exact kK
    obtain ⟨_, _, ⟨T31_, L31_, k31_, n31_⟩, -, X31_, ⟨Lc31_, hQ31_, l31_, y31_, z31_⟩, st31_⟩ := X22_.specialBack hx (y := (⟨"com/example/chains_to_rank/chainstorank/graph/DoubleArithmetic", "<init>", "(I)V"⟩ : MethodName)) rfl hown (mvT hZ (hw _ (List.mem_of_getElem? (i := 5) rfl))) (mvT hZ (hw _ (List.mem_of_getElem? (i := 6) rfl))) (mvT hZ (hw _ (List.mem_of_getElem? (i := 7) rfl))) (by decide) (backOf (W := 1) (rm_init lL Z a0 hw [] b22_ h22_ n0 (Nat.le_trans Z0 K22_.1) A22_ F22__mass F22__share F22__arriving F22__roundings F22__mostShares ge_b22_) hZ (hw _ (List.mem_of_getElem? (i := 7) rfl)) (hw _ (List.mem_of_getElem? (i := 4) rfl)) (by decide) (by decide)) (g := (mkF mM 215 #[.val (.int p1), .val (.int p2), .val (.int p3), .val (.int p4), .val (.int bt), .val (.int ev), .val (.int tv), .val (.int s0), .val (.int s1), .val (.int s2), .val (.int s3), .val (.int z), .val (.ref st), s13, .val (.ref b2_), .val (.ref b5_), .val (.ref b10_), .unset, .unset, .unset, .unset, .unset, .unset, .unset] [(.int (4 : Int32)), (.ref b22_), (.ref b22_)])) rfl (by rw [hml]; rfl) (Steps.refl _) (a := b22_) (argsL := [(.int (4 : Int32))]) (rest := [(.ref b22_)]) (lenOf own_pd4 rfl) rfl (by show 2 * 0 + _ ≤ _; exact Nat.le_of_eq rfl) (Jvm.hb hby at_215) (fun _ _ => ⟨rfl, e22_, (by decide : 5 + 3 ≤ _), (by decide : 10 + 12 ≤ _)⟩)
    dsimp only [Pt.U, Pt.locs, Pt.cells, Pt.slots] at X31_ l31_ y31_ z31_ st31_ hQ31_
    subst l31_ y31_ z31_
    obtain ⟨b1_31_, b2_31_, b3_31_, rfl, N31_q, p31__0, p31__1, p31__2, p31__3, p31__4, p31__5, p31__6, p31__7, p31__8, p31__9, p31__10⟩ := hQ31_
    have N31_ := Fr.app N18_ N31_q
    have sz_b1_31_ : h0.size ≤ b1_31_ := Nat.le_trans K22_.1 p31__1
    have ge_b1_31_ : n0 ≤ b1_31_ := Nat.le_trans Z0 sz_b1_31_
    have ne32_ : st ≠ b1_31_ := Nat.ne_of_lt (Nat.lt_of_lt_of_le fc27_.lt p31__1)
    have ne33_ : b2_ ≠ b1_31_ := Nat.ne_of_lt (Nat.lt_of_lt_of_le fc28_.lt p31__1)
    have ne34_ : b5_ ≠ b1_31_ := Nat.ne_of_lt (Nat.lt_of_lt_of_le fc29_.lt p31__1)
    have ne35_ : b10_ ≠ b1_31_ := Nat.ne_of_lt (Nat.lt_of_lt_of_le fc30_.lt p31__1)
    have ne36_ : b22_ ≠ b1_31_ := Nat.ne_of_lt (Nat.lt_of_lt_of_le A22_.lt p31__1)
    have sz_b3_31_ : h0.size ≤ b3_31_ := Nat.le_trans K22_.1 p31__2
    have ge_b3_31_ : n0 ≤ b3_31_ := Nat.le_trans Z0 sz_b3_31_
    have ne37_ : st ≠ b3_31_ := Nat.ne_of_lt (Nat.lt_of_lt_of_le fc27_.lt p31__2)
    have ne38_ : b2_ ≠ b3_31_ := Nat.ne_of_lt (Nat.lt_of_lt_of_le fc28_.lt p31__2)
    have ne39_ : b5_ ≠ b3_31_ := Nat.ne_of_lt (Nat.lt_of_lt_of_le fc29_.lt p31__2)
    have ne40_ : b10_ ≠ b3_31_ := Nat.ne_of_lt (Nat.lt_of_lt_of_le fc30_.lt p31__2)
    have ne41_ : b22_ ≠ b3_31_ := Nat.ne_of_lt (Nat.lt_of_lt_of_le A22_.lt p31__2)
    have fc42_ := fc27_.keep p31__0 (ninS ne23_ nin0)
    have fc43_ := fc28_.keep p31__0 (ninS ne24_ nin0)
    have fc44_ := fc29_.keep p31__0 (ninS ne25_ nin0)
    have fc45_ := fc30_.keep p31__0 (ninS ne26_ nin0)
    have fc46_ := A22_.keep p31__0
    have K31_ := K22_.trans p31__0 (allS (Or.inr sz_b22_) all0)
    refine own_fin (fun tT kK => st31_.trans kK) ?_
    show own_Fin pP eE below _ (T31_.setTop (mkF mM 218 #[.val (.int p1), .val (.int p2), .val (.int p3), .val (.int p4), .val (.int bt), .val (.int ev), .val (.int tv), .val (.int s0), .val (.int s1), .val (.int s2), .val (.int s3), .val (.int z), .val (.ref st), s13, .val (.ref b2_), .val (.ref b5_), .val (.ref b10_), .unset, .unset, .unset, .unset, .unset, .unset, .unset] [(.ref b22_)]))
    refine own_fin (b := T31_.setTop (mkF mM 225 #[.val (.int p1), .val (.int p2), .val (.int p3), .val (.int p4), .val (.int bt), .val (.int ev), .val (.int tv), .val (.int s0), .val (.int s1), .val (.int s2), .val (.int s3), .val (.int z), .val (.ref st), s13, .val (.ref b2_), .val (.ref b5_), .val (.ref b10_), .val (.ref b22_), .unset, .unset, .unset, .unset, .unset, .unset] [(.int p3), (.int tv), (.ref b22_)])) (fun tT kK => ?_) ?_
    · show Steps pP.tables eE below (T31_.setTop (mkF mM 218 #[.val (.int p1), .val (.int p2), .val (.int p3), .val (.int p4), .val (.int bt), .val (.int ev), .val (.int tv), .val (.int s0), .val (.int s1), .val (.int s2), .val (.int s3), .val (.int z), .val (.ref st), s13, .val (.ref b2_), .val (.ref b5_), .val (.ref b10_), .unset, .unset, .unset, .unset, .unset, .unset, .unset] [(.ref b22_)])) tT
      refine XS.astore X31_.here hx rfl (Jvm.hb hby at_218) rfl rfl (l' := #[.val (.int p1), .val (.int p2), .val (.int p3), .val (.int p4), .val (.int bt), .val (.int ev), .val (.int tv), .val (.int s0), .val (.int s1), .val (.int s2), .val (.int s3), .val (.int z), .val (.ref st), s13, .val (.ref b2_), .val (.ref b5_), .val (.ref b10_), .val (.ref b22_), .unset, .unset, .unset, .unset, .unset, .unset]) rfl ?_
      show Steps pP.tables eE below (T31_.setTop (mkF mM 220 #[.val (.int p1), .val (.int p2), .val (.int p3), .val (.int p4), .val (.int bt), .val (.int ev), .val (.int tv), .val (.int s0), .val (.int s1), .val (.int s2), .val (.int s3), .val (.int z), .val (.ref st), s13, .val (.ref b2_), .val (.ref b5_), .val (.ref b10_), .val (.ref b22_), .unset, .unset, .unset, .unset, .unset, .unset] [])) tT
      refine XS.aload X31_.here hx rfl (Jvm.hb hby at_220) rfl rfl ?_
      show Steps pP.tables eE below (T31_.setTop (mkF mM 222 #[.val (.int p1), .val (.int p2), .val (.int p3), .val (.int p4), .val (.int bt), .val (.int ev), .val (.int tv), .val (.int s0), .val (.int s1), .val (.int s2), .val (.int s3), .val (.int z), .val (.ref st), s13, .val (.ref b2_), .val (.ref b5_), .val (.ref b10_), .val (.ref b22_), .unset, .unset, .unset, .unset, .unset, .unset] [(.ref b22_)])) tT
      refine XS.iload X31_.here hx rfl (Jvm.hb hby at_222) rfl ?_
      show Steps pP.tables eE below (T31_.setTop (mkF mM 224 #[.val (.int p1), .val (.int p2), .val (.int p3), .val (.int p4), .val (.int bt), .val (.int ev), .val (.int tv), .val (.int s0), .val (.int s1), .val (.int s2), .val (.int s3), .val (.int z), .val (.ref st), s13, .val (.ref b2_), .val (.ref b5_), .val (.ref b10_), .val (.ref b22_), .unset, .unset, .unset, .unset, .unset, .unset] [(.int tv), (.ref b22_)])) tT
      refine XS.iloadN X31_.here hx rfl (Jvm.hb hby at_224) rfl ?_
      show Steps pP.tables eE below (T31_.setTop (mkF mM 225 #[.val (.int p1), .val (.int p2), .val (.int p3), .val (.int p4), .val (.int bt), .val (.int ev), .val (.int tv), .val (.int s0), .val (.int s1), .val (.int s2), .val (.int s3), .val (.int z), .val (.ref st), s13, .val (.ref b2_), .val (.ref b5_), .val (.ref b10_), .val (.ref b22_), .unset, .unset, .unset, .unset, .unset, .unset] [(.int p3), (.int tv), (.ref b22_)])) tT
      exact kK
    obtain ⟨cq47_, kq47_, q47_a, q47_b, q47_c⟩ := isOf hZ rfl p31__4
    obtain ⟨_, _, ⟨T47_, L47_, k47_, n47_⟩, -, X47_, ⟨Lc47_, hQ47_, l47_, y47_, z47_⟩, st47_⟩ := X31_.virtualBack hx (y := (⟨"com/example/chains_to_rank/chainstorank/graph/DoubleArithmetic", "arrive", "(II)Z"⟩ : MethodName)) (z := (⟨"com/example/chains_to_rank/chainstorank/graph/DoubleArithmetic", "arrive", "(II)Z"⟩ : MethodName)) hown (mvT hZ (hw _ (List.mem_of_getElem? (i := 18) rfl))) (mvT hZ (hw _ (List.mem_of_getElem? (i := 19) rfl))) (notFace_of_selects (args := #[]) (mvT hZ (hw _ (List.mem_of_getElem? (i := 21) rfl)))) (mvT hZ (hw _ (List.mem_of_getElem? (i := 21) rfl))) (mvT hZ (hw _ (List.mem_of_getElem? (i := 20) rfl))) (by decide) (backOf (W := 0) (rm_arr lL Z a0 hw [] b22_ tv p3 b1_31_ b3_31_ (0 : Int32) (0 : Int64) T31_.heap n0 (Nat.le_trans Z0 K31_.1) p31__4 p31__5 p31__6 p31__8 p31__7 p31__9 p31__10 ge_b22_ ge_b1_31_ ge_b3_31_ p31__3 (Ne.symm ne36_) (Ne.symm ne41_) hti) hZ (hw _ (List.mem_of_getElem? (i := 22) rfl)) (hw _ (List.mem_of_getElem? (i := 4) rfl)) (by decide) (by decide)) q47_a q47_c (g := (mkF mM 225 #[.val (.int p1), .val (.int p2), .val (.int p3), .val (.int p4), .val (.int bt), .val (.int ev), .val (.int tv), .val (.int s0), .val (.int s1), .val (.int s2), .val (.int s3), .val (.int z), .val (.ref st), s13, .val (.ref b2_), .val (.ref b5_), .val (.ref b10_), .val (.ref b22_), .unset, .unset, .unset, .unset, .unset, .unset] [(.int p3), (.int tv), (.ref b22_)])) rfl (by rw [hml]; rfl) (Steps.refl _) (argsL := [(.int tv), (.int p3)]) (rest := []) (lenOf own_pd5 rfl) rfl (by show 2 * 0 + _ ≤ _; exact Nat.le_of_eq rfl) (Jvm.hb hby at_225) (fun _ _ => ⟨rfl, rfl, (by decide : 8 + 0 ≤ _), (by decide : 22 + 0 ≤ _)⟩)
    dsimp only [Pt.U, Pt.locs, Pt.cells, Pt.slots] at X47_ l47_ y47_ z47_ st47_ hQ47_
    subst l47_ y47_ z47_
    obtain ⟨mn_47_, rfl, N47_q, p47__0, p47__1, p47__2, p47__3, p47__4, p47__5, p47__6, p47__7⟩ := hQ47_
    have N47_ := Fr.app N31_ N47_q
    have fc48_ := fc42_.keep p47__0 (ninS ne23_ (ninS ne32_ (ninS ne37_ nin0)))
    have fc49_ := fc43_.keep p47__0 (ninS ne24_ (ninS ne33_ (ninS ne38_ nin0)))
    have fc50_ := fc44_.keep p47__0 (ninS ne25_ (ninS ne34_ (ninS ne39_ nin0)))
    have fc51_ := fc45_.keep p47__0 (ninS ne26_ (ninS ne35_ (ninS ne40_ nin0)))
    have fc52_ := p31__4.keep p47__0
    have K47_ := K31_.trans p47__0 (allS (Or.inr sz_b22_) (allS (Or.inr sz_b1_31_) (allS (Or.inr sz_b3_31_) all0)))
    refine own_fin (fun tT kK => st47_.trans kK) ?_
    show own_Fin pP eE below _ (T47_.setTop (mkF mM 228 #[.val (.int p1), .val (.int p2), .val (.int p3), .val (.int p4), .val (.int bt), .val (.int ev), .val (.int tv), .val (.int s0), .val (.int s1), .val (.int s2), .val (.int s3), .val (.int z), .val (.ref st), s13, .val (.ref b2_), .val (.ref b5_), .val (.ref b10_), .val (.ref b22_), .unset, .unset, .unset, .unset, .unset, .unset] [(.int (0 : Int32))]))
    refine own_fin (b := T47_.setTop (mkF mM 235 #[.val (.int p1), .val (.int p2), .val (.int p3), .val (.int p4), .val (.int bt), .val (.int ev), .val (.int tv), .val (.int s0), .val (.int s1), .val (.int s2), .val (.int s3), .val (.int z), .val (.ref st), s13, .val (.ref b2_), .val (.ref b5_), .val (.ref b10_), .val (.ref b22_), .unset, .unset, .unset, .unset, .unset, .unset] [(.ref b5_), (.ref b2_), (.ref b22_)])) (fun tT kK => ?_) ?_
    · show Steps pP.tables eE below (T47_.setTop (mkF mM 228 #[.val (.int p1), .val (.int p2), .val (.int p3), .val (.int p4), .val (.int bt), .val (.int ev), .val (.int tv), .val (.int s0), .val (.int s1), .val (.int s2), .val (.int s3), .val (.int z), .val (.ref st), s13, .val (.ref b2_), .val (.ref b5_), .val (.ref b10_), .val (.ref b22_), .unset, .unset, .unset, .unset, .unset, .unset] [(.int (0 : Int32))])) tT
      refine XS.pop X47_.here hx rfl (Jvm.hb hby at_228) rfl rfl ?_
      show Steps pP.tables eE below (T47_.setTop (mkF mM 229 #[.val (.int p1), .val (.int p2), .val (.int p3), .val (.int p4), .val (.int bt), .val (.int ev), .val (.int tv), .val (.int s0), .val (.int s1), .val (.int s2), .val (.int s3), .val (.int z), .val (.ref st), s13, .val (.ref b2_), .val (.ref b5_), .val (.ref b10_), .val (.ref b22_), .unset, .unset, .unset, .unset, .unset, .unset] [])) tT
      refine XS.aload X47_.here hx rfl (Jvm.hb hby at_229) rfl rfl ?_
      show Steps pP.tables eE below (T47_.setTop (mkF mM 231 #[.val (.int p1), .val (.int p2), .val (.int p3), .val (.int p4), .val (.int bt), .val (.int ev), .val (.int tv), .val (.int s0), .val (.int s1), .val (.int s2), .val (.int s3), .val (.int z), .val (.ref st), s13, .val (.ref b2_), .val (.ref b5_), .val (.ref b10_), .val (.ref b22_), .unset, .unset, .unset, .unset, .unset, .unset] [(.ref b22_)])) tT
      refine XS.aload X47_.here hx rfl (Jvm.hb hby at_231) rfl rfl ?_
      show Steps pP.tables eE below (T47_.setTop (mkF mM 233 #[.val (.int p1), .val (.int p2), .val (.int p3), .val (.int p4), .val (.int bt), .val (.int ev), .val (.int tv), .val (.int s0), .val (.int s1), .val (.int s2), .val (.int s3), .val (.int z), .val (.ref st), s13, .val (.ref b2_), .val (.ref b5_), .val (.ref b10_), .val (.ref b22_), .unset, .unset, .unset, .unset, .unset, .unset] [(.ref b2_), (.ref b22_)])) tT
      refine XS.aload X47_.here hx rfl (Jvm.hb hby at_233) rfl rfl ?_
      show Steps pP.tables eE below (T47_.setTop (mkF mM 235 #[.val (.int p1), .val (.int p2), .val (.int p3), .val (.int p4), .val (.int bt), .val (.int ev), .val (.int tv), .val (.int s0), .val (.int s1), .val (.int s2), .val (.int s3), .val (.int z), .val (.ref st), s13, .val (.ref b2_), .val (.ref b5_), .val (.ref b10_), .val (.ref b22_), .unset, .unset, .unset, .unset, .unset, .unset] [(.ref b5_), (.ref b2_), (.ref b22_)])) tT
      exact kK
    obtain ⟨cq53_, kq53_, q53_a, q53_b, q53_c⟩ := isOf hZ rfl p47__1
    obtain ⟨_, _, ⟨T53_, L53_, k53_, n53_⟩, -, X53_, ⟨Lc53_, hQ53_, l53_, y53_, z53_⟩, st53_⟩ := X47_.virtualBack hx (y := (⟨"com/example/chains_to_rank/chainstorank/graph/DoubleArithmetic", "prepareStep", "([I[I)V"⟩ : MethodName)) (z := (⟨"com/example/chains_to_rank/chainstorank/graph/DoubleArithmetic", "prepareStep", "([I[I)V"⟩ : MethodName)) hown (mvT hZ (hw _ (List.mem_of_getElem? (i := 34) rfl))) (mvT hZ (hw _ (List.mem_of_getElem? (i := 35) rfl))) (notFace_of_selects (args := #[]) (mvT hZ (hw _ (List.mem_of_getElem? (i := 37) rfl)))) (mvT hZ (hw _ (List.mem_of_getElem? (i := 37) rfl))) (mvT hZ (hw _ (List.mem_of_getElem? (i := 36) rfl))) (by decide) (backOf (W := 0) (rm_prep lL Z a0 hw [] b22_ b2_ b5_ k2_ mn_47_ (0 : Int64) b1_31_ b3_31_ T47_.heap n0 (Nat.le_trans Z0 K47_.1) p47__1 p47__2 p47__3 p47__5 p47__4 fc49_ ge_b22_ ne24_) hZ (hw _ (List.mem_of_getElem? (i := 38) rfl)) (hw _ (List.mem_of_getElem? (i := 4) rfl)) (by decide) (by decide)) q53_a q53_c (g := (mkF mM 235 #[.val (.int p1), .val (.int p2), .val (.int p3), .val (.int p4), .val (.int bt), .val (.int ev), .val (.int tv), .val (.int s0), .val (.int s1), .val (.int s2), .val (.int s3), .val (.int z), .val (.ref st), s13, .val (.ref b2_), .val (.ref b5_), .val (.ref b10_), .val (.ref b22_), .unset, .unset, .unset, .unset, .unset, .unset] [(.ref b5_), (.ref b2_), (.ref b22_)])) rfl (by rw [hml]; rfl) (Steps.refl _) (argsL := [(.ref b2_), (.ref b5_)]) (rest := []) (lenOf own_pd6 rfl) rfl (by show 2 * 0 + _ ≤ _; exact Nat.le_of_eq rfl) (Jvm.hb hby at_235) (fun _ _ => ⟨rfl, rfl, (by decide : 8 + 0 ≤ _), (by decide : 22 + 0 ≤ _)⟩)
    dsimp only [Pt.U, Pt.locs, Pt.cells, Pt.slots] at X53_ l53_ y53_ z53_ st53_ hQ53_
    subst l53_ y53_ z53_
    obtain ⟨qn_53_, rfl, N53_q, p53__0, p53__1, p53__2, p53__3, p53__4, p53__5⟩ := hQ53_
    have N53_ := Fr.app N47_ N53_q
    have fc54_ := fc48_.keep p53__0 (ninS ne23_ nin0)
    have fc55_ := fc49_.keep p53__0 (ninS ne24_ nin0)
    have fc56_ := fc50_.keep p53__0 (ninS ne25_ nin0)
    have fc57_ := fc51_.keep p53__0 (ninS ne26_ nin0)
    have fc58_ := p47__1.keep p53__0
    have fc59_ := p47__6.keep p53__0 (ninS (Ne.symm ne36_) nin0)
    have fc60_ := p47__7.keep p53__0 (ninS (Ne.symm ne41_) nin0)
    have K53_ := K47_.trans p53__0 (allS (Or.inr sz_b22_) all0)
    refine own_fin (fun tT kK => st53_.trans kK) ?_
    show own_Fin pP eE below _ (T53_.setTop (mkF mM 238 #[.val (.int p1), .val (.int p2), .val (.int p3), .val (.int p4), .val (.int bt), .val (.int ev), .val (.int tv), .val (.int s0), .val (.int s1), .val (.int s2), .val (.int s3), .val (.int z), .val (.ref st), s13, .val (.ref b2_), .val (.ref b5_), .val (.ref b10_), .val (.ref b22_), .unset, .unset, .unset, .unset, .unset, .unset] []))
    refine own_fin (b := T53_.setTop (mkF mM 243 #[.val (.int p1), .val (.int p2), .val (.int p3), .val (.int p4), .val (.int bt), .val (.int ev), .val (.int tv), .val (.int s0), .val (.int s1), .val (.int s2), .val (.int s3), .val (.int z), .val (.ref st), s13, .val (.ref b2_), .val (.ref b5_), .val (.ref b10_), .val (.ref b22_), .unset, .unset, .unset, .unset, .unset, .unset] [(.int p4), (.int tv), (.ref b22_)])) (fun tT kK => ?_) ?_
    · show Steps pP.tables eE below (T53_.setTop (mkF mM 238 #[.val (.int p1), .val (.int p2), .val (.int p3), .val (.int p4), .val (.int bt), .val (.int ev), .val (.int tv), .val (.int s0), .val (.int s1), .val (.int s2), .val (.int s3), .val (.int z), .val (.ref st), s13, .val (.ref b2_), .val (.ref b5_), .val (.ref b10_), .val (.ref b22_), .unset, .unset, .unset, .unset, .unset, .unset] [])) tT
      refine XS.aload X53_.here hx rfl (Jvm.hb hby at_238) rfl rfl ?_
      show Steps pP.tables eE below (T53_.setTop (mkF mM 240 #[.val (.int p1), .val (.int p2), .val (.int p3), .val (.int p4), .val (.int bt), .val (.int ev), .val (.int tv), .val (.int s0), .val (.int s1), .val (.int s2), .val (.int s3), .val (.int z), .val (.ref st), s13, .val (.ref b2_), .val (.ref b5_), .val (.ref b10_), .val (.ref b22_), .unset, .unset, .unset, .unset, .unset, .unset] [(.ref b22_)])) tT
      refine XS.iload X53_.here hx rfl (Jvm.hb hby at_240) rfl ?_
      show Steps pP.tables eE below (T53_.setTop (mkF mM 242 #[.val (.int p1), .val (.int p2), .val (.int p3), .val (.int p4), .val (.int bt), .val (.int ev), .val (.int tv), .val (.int s0), .val (.int s1), .val (.int s2), .val (.int s3), .val (.int z), .val (.ref st), s13, .val (.ref b2_), .val (.ref b5_), .val (.ref b10_), .val (.ref b22_), .unset, .unset, .unset, .unset, .unset, .unset] [(.int tv), (.ref b22_)])) tT
      refine XS.iloadN X53_.here hx rfl (Jvm.hb hby at_242) rfl ?_
      show Steps pP.tables eE below (T53_.setTop (mkF mM 243 #[.val (.int p1), .val (.int p2), .val (.int p3), .val (.int p4), .val (.int bt), .val (.int ev), .val (.int tv), .val (.int s0), .val (.int s1), .val (.int s2), .val (.int s3), .val (.int z), .val (.ref st), s13, .val (.ref b2_), .val (.ref b5_), .val (.ref b10_), .val (.ref b22_), .unset, .unset, .unset, .unset, .unset, .unset] [(.int p4), (.int tv), (.ref b22_)])) tT
      exact kK
    obtain ⟨cq61_, kq61_, q61_a, q61_b, q61_c⟩ := isOf hZ rfl p53__1
    obtain ⟨_, _, ⟨T61_, L61_, k61_, n61_⟩, -, X61_, ⟨Lc61_, hQ61_, l61_, y61_, z61_⟩, st61_⟩ := X53_.virtualBack hx (y := (⟨"com/example/chains_to_rank/chainstorank/graph/DoubleArithmetic", "arrive", "(II)Z"⟩ : MethodName)) (z := (⟨"com/example/chains_to_rank/chainstorank/graph/DoubleArithmetic", "arrive", "(II)Z"⟩ : MethodName)) hown (mvT hZ (hw _ (List.mem_of_getElem? (i := 18) rfl))) (mvT hZ (hw _ (List.mem_of_getElem? (i := 19) rfl))) (notFace_of_selects (args := #[]) (mvT hZ (hw _ (List.mem_of_getElem? (i := 21) rfl)))) (mvT hZ (hw _ (List.mem_of_getElem? (i := 21) rfl))) (mvT hZ (hw _ (List.mem_of_getElem? (i := 20) rfl))) (by decide) (backOf (W := 0) (rm_arr lL Z a0 hw [] b22_ tv p4 b1_31_ b3_31_ (0 : Int32) qn_53_ T53_.heap n0 (Nat.le_trans Z0 K53_.1) p53__1 p53__2 p53__3 p53__5 p53__4 fc59_ fc60_ ge_b22_ ge_b1_31_ ge_b3_31_ p31__3 (Ne.symm ne36_) (Ne.symm ne41_) hti) hZ (hw _ (List.mem_of_getElem? (i := 22) rfl)) (hw _ (List.mem_of_getElem? (i := 4) rfl)) (by decide) (by decide)) q61_a q61_c (g := (mkF mM 243 #[.val (.int p1), .val (.int p2), .val (.int p3), .val (.int p4), .val (.int bt), .val (.int ev), .val (.int tv), .val (.int s0), .val (.int s1), .val (.int s2), .val (.int s3), .val (.int z), .val (.ref st), s13, .val (.ref b2_), .val (.ref b5_), .val (.ref b10_), .val (.ref b22_), .unset, .unset, .unset, .unset, .unset, .unset] [(.int p4), (.int tv), (.ref b22_)])) rfl (by rw [hml]; rfl) (Steps.refl _) (argsL := [(.int tv), (.int p4)]) (rest := []) (lenOf own_pd5 rfl) rfl (by show 2 * 0 + _ ≤ _; exact Nat.le_of_eq rfl) (Jvm.hb hby at_243) (fun _ _ => ⟨rfl, rfl, (by decide : 8 + 0 ≤ _), (by decide : 22 + 0 ≤ _)⟩)
    dsimp only [Pt.U, Pt.locs, Pt.cells, Pt.slots] at X61_ l61_ y61_ z61_ st61_ hQ61_
    subst l61_ y61_ z61_
    obtain ⟨mn_61_, rfl, N61_q, p61__0, p61__1, p61__2, p61__3, p61__4, p61__5, p61__6, p61__7⟩ := hQ61_
    have N61_ := Fr.app N53_ N61_q
    have fc62_ := fc54_.keep p61__0 (ninS ne23_ (ninS ne32_ (ninS ne37_ nin0)))
    have fc63_ := fc55_.keep p61__0 (ninS ne24_ (ninS ne33_ (ninS ne38_ nin0)))
    have fc64_ := fc56_.keep p61__0 (ninS ne25_ (ninS ne34_ (ninS ne39_ nin0)))
    have fc65_ := fc57_.keep p61__0 (ninS ne26_ (ninS ne35_ (ninS ne40_ nin0)))
    have fc66_ := p53__1.keep p61__0
    have K61_ := K53_.trans p61__0 (allS (Or.inr sz_b22_) (allS (Or.inr sz_b1_31_) (allS (Or.inr sz_b3_31_) all0)))
    refine own_fin (fun tT kK => st61_.trans kK) ?_
    show own_Fin pP eE below _ (T61_.setTop (mkF mM 246 #[.val (.int p1), .val (.int p2), .val (.int p3), .val (.int p4), .val (.int bt), .val (.int ev), .val (.int tv), .val (.int s0), .val (.int s1), .val (.int s2), .val (.int s3), .val (.int z), .val (.ref st), s13, .val (.ref b2_), .val (.ref b5_), .val (.ref b10_), .val (.ref b22_), .unset, .unset, .unset, .unset, .unset, .unset] [(.int (0 : Int32))]))
    refine own_fin (b := T61_.setTop (mkF mM 251 #[.val (.int p1), .val (.int p2), .val (.int p3), .val (.int p4), .val (.int bt), .val (.int ev), .val (.int tv), .val (.int s0), .val (.int s1), .val (.int s2), .val (.int s3), .val (.int z), .val (.ref st), s13, .val (.ref b2_), .val (.ref b5_), .val (.ref b10_), .val (.ref b22_), .unset, .unset, .unset, .unset, .unset, .unset] [(.ref st), (.ref b22_)])) (fun tT kK => ?_) ?_
    · show Steps pP.tables eE below (T61_.setTop (mkF mM 246 #[.val (.int p1), .val (.int p2), .val (.int p3), .val (.int p4), .val (.int bt), .val (.int ev), .val (.int tv), .val (.int s0), .val (.int s1), .val (.int s2), .val (.int s3), .val (.int z), .val (.ref st), s13, .val (.ref b2_), .val (.ref b5_), .val (.ref b10_), .val (.ref b22_), .unset, .unset, .unset, .unset, .unset, .unset] [(.int (0 : Int32))])) tT
      refine XS.pop X61_.here hx rfl (Jvm.hb hby at_246) rfl rfl ?_
      show Steps pP.tables eE below (T61_.setTop (mkF mM 247 #[.val (.int p1), .val (.int p2), .val (.int p3), .val (.int p4), .val (.int bt), .val (.int ev), .val (.int tv), .val (.int s0), .val (.int s1), .val (.int s2), .val (.int s3), .val (.int z), .val (.ref st), s13, .val (.ref b2_), .val (.ref b5_), .val (.ref b10_), .val (.ref b22_), .unset, .unset, .unset, .unset, .unset, .unset] [])) tT
      refine XS.aload X61_.here hx rfl (Jvm.hb hby at_247) rfl rfl ?_
      show Steps pP.tables eE below (T61_.setTop (mkF mM 249 #[.val (.int p1), .val (.int p2), .val (.int p3), .val (.int p4), .val (.int bt), .val (.int ev), .val (.int tv), .val (.int s0), .val (.int s1), .val (.int s2), .val (.int s3), .val (.int z), .val (.ref st), s13, .val (.ref b2_), .val (.ref b5_), .val (.ref b10_), .val (.ref b22_), .unset, .unset, .unset, .unset, .unset, .unset] [(.ref b22_)])) tT
      refine XS.aload X61_.here hx rfl (Jvm.hb hby at_249) rfl rfl ?_
      show Steps pP.tables eE below (T61_.setTop (mkF mM 251 #[.val (.int p1), .val (.int p2), .val (.int p3), .val (.int p4), .val (.int bt), .val (.int ev), .val (.int tv), .val (.int s0), .val (.int s1), .val (.int s2), .val (.int s3), .val (.int z), .val (.ref st), s13, .val (.ref b2_), .val (.ref b5_), .val (.ref b10_), .val (.ref b22_), .unset, .unset, .unset, .unset, .unset, .unset] [(.ref st), (.ref b22_)])) tT
      exact kK
    obtain ⟨cq67_, kq67_, q67_a, q67_b, q67_c⟩ := isOf hZ rfl p61__1
    obtain ⟨_, _, ⟨T67_, L67_, k67_, n67_⟩, -, X67_, ⟨Lc67_, hQ67_, l67_, y67_, z67_⟩, st67_⟩ := X61_.virtualBack hx (y := (⟨"com/example/chains_to_rank/chainstorank/graph/DoubleArithmetic", "start", "([I)V"⟩ : MethodName)) (z := (⟨"com/example/chains_to_rank/chainstorank/graph/DoubleArithmetic", "start", "([I)V"⟩ : MethodName)) hown (mvT hZ (hw _ (List.mem_of_getElem? (i := 41) rfl))) (mvT hZ (hw _ (List.mem_of_getElem? (i := 42) rfl))) (notFace_of_selects (args := #[]) (mvT hZ (hw _ (List.mem_of_getElem? (i := 44) rfl)))) (mvT hZ (hw _ (List.mem_of_getElem? (i := 44) rfl))) (mvT hZ (hw _ (List.mem_of_getElem? (i := 43) rfl))) (by decide) (backOf (W := 0) (rm_start lL Z a0 hw [] b22_ st b1_31_ z f qn_53_ mn_61_ T61_.heap n0 (Nat.le_trans Z0 K61_.1) p61__1 p61__2 p61__5 p61__4 fc62_ p61__6 ge_b22_ ge_b1_31_ (Ne.symm ne36_) ne23_ ne32_ hSt.2.1 (own_spn hSt.1).1) hZ (hw _ (List.mem_of_getElem? (i := 45) rfl)) (hw _ (List.mem_of_getElem? (i := 4) rfl)) (by decide) (by decide)) q67_a q67_c (g := (mkF mM 251 #[.val (.int p1), .val (.int p2), .val (.int p3), .val (.int p4), .val (.int bt), .val (.int ev), .val (.int tv), .val (.int s0), .val (.int s1), .val (.int s2), .val (.int s3), .val (.int z), .val (.ref st), s13, .val (.ref b2_), .val (.ref b5_), .val (.ref b10_), .val (.ref b22_), .unset, .unset, .unset, .unset, .unset, .unset] [(.ref st), (.ref b22_)])) rfl (by rw [hml]; rfl) (Steps.refl _) (argsL := [(.ref st)]) (rest := []) (lenOf own_pd7 rfl) rfl (by show 2 * 0 + _ ≤ _; exact Nat.le_of_eq rfl) (Jvm.hb hby at_251) (fun _ _ => ⟨rfl, rfl, (by decide : 8 + 0 ≤ _), (by decide : 22 + 0 ≤ _)⟩)
    dsimp only [Pt.U, Pt.locs, Pt.cells, Pt.slots] at X67_ l67_ y67_ z67_ st67_ hQ67_
    subst l67_ y67_ z67_
    obtain ⟨rfl, N67_q, p67__0, p67__1, p67__2, p67__3, p67__4, p67__5⟩ := hQ67_
    have N67_ := Fr.app N61_ N67_q
    have fc68_ := fc62_.keep p67__0 (ninS ne23_ (ninS ne32_ nin0))
    have fc69_ := fc63_.keep p67__0 (ninS ne24_ (ninS ne33_ nin0))
    have fc70_ := fc64_.keep p67__0 (ninS ne25_ (ninS ne34_ nin0))
    have fc71_ := fc65_.keep p67__0 (ninS ne26_ (ninS ne35_ nin0))
    have fc72_ := p61__1.keep p67__0
    have fc73_ := p61__7.keep p67__0 (ninS (Ne.symm ne41_) (ninS (Ne.symm p31__3) nin0))
    have K67_ := K61_.trans p67__0 (allS (Or.inr sz_b22_) (allS (Or.inr sz_b1_31_) all0))
    refine own_fin (fun tT kK => st67_.trans kK) ?_
    show own_Fin pP eE below _ (T67_.setTop (mkF mM 254 #[.val (.int p1), .val (.int p2), .val (.int p3), .val (.int p4), .val (.int bt), .val (.int ev), .val (.int tv), .val (.int s0), .val (.int s1), .val (.int s2), .val (.int s3), .val (.int z), .val (.ref st), s13, .val (.ref b2_), .val (.ref b5_), .val (.ref b10_), .val (.ref b22_), .unset, .unset, .unset, .unset, .unset, .unset] []))
    refine own_fin (b := T67_.setTop (mkF mM 256 #[.val (.int p1), .val (.int p2), .val (.int p3), .val (.int p4), .val (.int bt), .val (.int ev), .val (.int tv), .val (.int s0), .val (.int s1), .val (.int s2), .val (.int s3), .val (.int z), .val (.ref st), s13, .val (.ref b2_), .val (.ref b5_), .val (.ref b10_), .val (.ref b22_), .unset, .unset, .unset, .unset, .unset, .unset] [(.int ev)])) (fun tT kK => ?_) ?_
    · show Steps pP.tables eE below (T67_.setTop (mkF mM 254 #[.val (.int p1), .val (.int p2), .val (.int p3), .val (.int p4), .val (.int bt), .val (.int ev), .val (.int tv), .val (.int s0), .val (.int s1), .val (.int s2), .val (.int s3), .val (.int z), .val (.ref st), s13, .val (.ref b2_), .val (.ref b5_), .val (.ref b10_), .val (.ref b22_), .unset, .unset, .unset, .unset, .unset, .unset] [])) tT
      refine XS.iload X67_.here hx rfl (Jvm.hb hby at_254) rfl ?_
      show Steps pP.tables eE below (T67_.setTop (mkF mM 256 #[.val (.int p1), .val (.int p2), .val (.int p3), .val (.int p4), .val (.int bt), .val (.int ev), .val (.int tv), .val (.int s0), .val (.int s1), .val (.int s2), .val (.int s3), .val (.int z), .val (.ref st), s13, .val (.ref b2_), .val (.ref b5_), .val (.ref b10_), .val (.ref b22_), .unset, .unset, .unset, .unset, .unset, .unset] [(.int ev)])) tT
      exact kK
    obtain ⟨ins, hins, st74_⟩ : ∃ ins : Int32, (ins = (if ev = (0 : Int32) then s0 else (if ev = (1 : Int32) then s1 else (if ev = (2 : Int32) then s2 else s3)))) ∧ ∀ tT, Steps pP.tables eE below (T67_.setTop (mkF mM 288 #[.val (.int p1), .val (.int p2), .val (.int p3), .val (.int p4), .val (.int bt), .val (.int ev), .val (.int tv), .val (.int s0), .val (.int s1), .val (.int s2), .val (.int s3), .val (.int z), .val (.ref st), s13, .val (.ref b2_), .val (.ref b5_), .val (.ref b10_), .val (.ref b22_), .unset, .unset, .unset, .unset, .unset, .unset] [(.int ins)])) tT → Steps pP.tables eE below (T67_.setTop (mkF mM 256 #[.val (.int p1), .val (.int p2), .val (.int p3), .val (.int p4), .val (.int bt), .val (.int ev), .val (.int tv), .val (.int s0), .val (.int s1), .val (.int s2), .val (.int s3), .val (.int z), .val (.ref st), s13, .val (.ref b2_), .val (.ref b5_), .val (.ref b10_), .val (.ref b22_), .unset, .unset, .unset, .unset, .unset, .unset] [(.int ev)])) tT := by
      by_cases hm1 : ev = (0 : Int32)
      · refine ⟨s0, by rw [if_pos hm1], fun tT kK => ?_⟩
        refine XS.ifNo X67_.here hx rfl (Jvm.hb hby at_256) rfl ((if0 _ _).trans (teq (hm1 : ev = (0 : Int32))).2) ?_
        show Steps pP.tables eE below (T67_.setTop (mkF mM 259 #[.val (.int p1), .val (.int p2), .val (.int p3), .val (.int p4), .val (.int bt), .val (.int ev), .val (.int tv), .val (.int s0), .val (.int s1), .val (.int s2), .val (.int s3), .val (.int z), .val (.ref st), s13, .val (.ref b2_), .val (.ref b5_), .val (.ref b10_), .val (.ref b22_), .unset, .unset, .unset, .unset, .unset, .unset] [])) tT
        refine XS.iload X67_.here hx rfl (Jvm.hb hby at_259) rfl ?_
        show Steps pP.tables eE below (T67_.setTop (mkF mM 261 #[.val (.int p1), .val (.int p2), .val (.int p3), .val (.int p4), .val (.int bt), .val (.int ev), .val (.int tv), .val (.int s0), .val (.int s1), .val (.int s2), .val (.int s3), .val (.int z), .val (.ref st), s13, .val (.ref b2_), .val (.ref b5_), .val (.ref b10_), .val (.ref b22_), .unset, .unset, .unset, .unset, .unset, .unset] [(.int s0)])) tT
        refine XS.goto X67_.here hx rfl (pc0 := 261) (pc' := 288) rfl (Jvm.hb hby at_261) (by decide) (by decide) ?_
        show Steps pP.tables eE below (T67_.setTop (mkF mM 288 #[.val (.int p1), .val (.int p2), .val (.int p3), .val (.int p4), .val (.int bt), .val (.int ev), .val (.int tv), .val (.int s0), .val (.int s1), .val (.int s2), .val (.int s3), .val (.int z), .val (.ref st), s13, .val (.ref b2_), .val (.ref b5_), .val (.ref b10_), .val (.ref b22_), .unset, .unset, .unset, .unset, .unset, .unset] [(.int s0)])) tT
        exact kK
      · by_cases hm2 : ev = (1 : Int32)
        · refine ⟨s1, by rw [if_neg hm1, if_pos hm2], fun tT kK => ?_⟩
          refine XS.ifYes X67_.here hx rfl (pc0 := 256) (pc' := 264) rfl (Jvm.hb hby at_256) rfl ((if0 _ _).trans (feq (hm1 : ¬ (ev = (0 : Int32)))).2) (by decide) (by decide) ?_
          show Steps pP.tables eE below (T67_.setTop (mkF mM 264 #[.val (.int p1), .val (.int p2), .val (.int p3), .val (.int p4), .val (.int bt), .val (.int ev), .val (.int tv), .val (.int s0), .val (.int s1), .val (.int s2), .val (.int s3), .val (.int z), .val (.ref st), s13, .val (.ref b2_), .val (.ref b5_), .val (.ref b10_), .val (.ref b22_), .unset, .unset, .unset, .unset, .unset, .unset] [])) tT
          refine XS.iload X67_.here hx rfl (Jvm.hb hby at_264) rfl ?_
          show Steps pP.tables eE below (T67_.setTop (mkF mM 266 #[.val (.int p1), .val (.int p2), .val (.int p3), .val (.int p4), .val (.int bt), .val (.int ev), .val (.int tv), .val (.int s0), .val (.int s1), .val (.int s2), .val (.int s3), .val (.int z), .val (.ref st), s13, .val (.ref b2_), .val (.ref b5_), .val (.ref b10_), .val (.ref b22_), .unset, .unset, .unset, .unset, .unset, .unset] [(.int ev)])) tT
          refine XS.iconst X67_.here hx rfl (Jvm.hb hby at_266) ?_
          show Steps pP.tables eE below (T67_.setTop (mkF mM 267 #[.val (.int p1), .val (.int p2), .val (.int p3), .val (.int p4), .val (.int bt), .val (.int ev), .val (.int tv), .val (.int s0), .val (.int s1), .val (.int s2), .val (.int s3), .val (.int z), .val (.ref st), s13, .val (.ref b2_), .val (.ref b5_), .val (.ref b10_), .val (.ref b22_), .unset, .unset, .unset, .unset, .unset, .unset] [(.int (1 : Int32)), (.int ev)])) tT
          refine XS.icmpNo X67_.here hx rfl (Jvm.hb hby at_267) rfl (teq (hm2 : ev = (1 : Int32))).2 ?_
          show Steps pP.tables eE below (T67_.setTop (mkF mM 270 #[.val (.int p1), .val (.int p2), .val (.int p3), .val (.int p4), .val (.int bt), .val (.int ev), .val (.int tv), .val (.int s0), .val (.int s1), .val (.int s2), .val (.int s3), .val (.int z), .val (.ref st), s13, .val (.ref b2_), .val (.ref b5_), .val (.ref b10_), .val (.ref b22_), .unset, .unset, .unset, .unset, .unset, .unset] [])) tT
          refine XS.iload X67_.here hx rfl (Jvm.hb hby at_270) rfl ?_
          show Steps pP.tables eE below (T67_.setTop (mkF mM 272 #[.val (.int p1), .val (.int p2), .val (.int p3), .val (.int p4), .val (.int bt), .val (.int ev), .val (.int tv), .val (.int s0), .val (.int s1), .val (.int s2), .val (.int s3), .val (.int z), .val (.ref st), s13, .val (.ref b2_), .val (.ref b5_), .val (.ref b10_), .val (.ref b22_), .unset, .unset, .unset, .unset, .unset, .unset] [(.int s1)])) tT
          refine XS.goto X67_.here hx rfl (pc0 := 272) (pc' := 288) rfl (Jvm.hb hby at_272) (by decide) (by decide) ?_
          show Steps pP.tables eE below (T67_.setTop (mkF mM 288 #[.val (.int p1), .val (.int p2), .val (.int p3), .val (.int p4), .val (.int bt), .val (.int ev), .val (.int tv), .val (.int s0), .val (.int s1), .val (.int s2), .val (.int s3), .val (.int z), .val (.ref st), s13, .val (.ref b2_), .val (.ref b5_), .val (.ref b10_), .val (.ref b22_), .unset, .unset, .unset, .unset, .unset, .unset] [(.int s1)])) tT
          exact kK
        · by_cases hm3 : ev = (2 : Int32)
          · refine ⟨s2, by rw [if_neg hm1, if_neg hm2, if_pos hm3], fun tT kK => ?_⟩
            refine XS.ifYes X67_.here hx rfl (pc0 := 256) (pc' := 264) rfl (Jvm.hb hby at_256) rfl ((if0 _ _).trans (feq (hm1 : ¬ (ev = (0 : Int32)))).2) (by decide) (by decide) ?_
            show Steps pP.tables eE below (T67_.setTop (mkF mM 264 #[.val (.int p1), .val (.int p2), .val (.int p3), .val (.int p4), .val (.int bt), .val (.int ev), .val (.int tv), .val (.int s0), .val (.int s1), .val (.int s2), .val (.int s3), .val (.int z), .val (.ref st), s13, .val (.ref b2_), .val (.ref b5_), .val (.ref b10_), .val (.ref b22_), .unset, .unset, .unset, .unset, .unset, .unset] [])) tT
            refine XS.iload X67_.here hx rfl (Jvm.hb hby at_264) rfl ?_
            show Steps pP.tables eE below (T67_.setTop (mkF mM 266 #[.val (.int p1), .val (.int p2), .val (.int p3), .val (.int p4), .val (.int bt), .val (.int ev), .val (.int tv), .val (.int s0), .val (.int s1), .val (.int s2), .val (.int s3), .val (.int z), .val (.ref st), s13, .val (.ref b2_), .val (.ref b5_), .val (.ref b10_), .val (.ref b22_), .unset, .unset, .unset, .unset, .unset, .unset] [(.int ev)])) tT
            refine XS.iconst X67_.here hx rfl (Jvm.hb hby at_266) ?_
            show Steps pP.tables eE below (T67_.setTop (mkF mM 267 #[.val (.int p1), .val (.int p2), .val (.int p3), .val (.int p4), .val (.int bt), .val (.int ev), .val (.int tv), .val (.int s0), .val (.int s1), .val (.int s2), .val (.int s3), .val (.int z), .val (.ref st), s13, .val (.ref b2_), .val (.ref b5_), .val (.ref b10_), .val (.ref b22_), .unset, .unset, .unset, .unset, .unset, .unset] [(.int (1 : Int32)), (.int ev)])) tT
            refine XS.icmpYes X67_.here hx rfl (pc0 := 267) (pc' := 275) rfl (Jvm.hb hby at_267) rfl (feq (hm2 : ¬ (ev = (1 : Int32)))).2 (by decide) (by decide) ?_
            show Steps pP.tables eE below (T67_.setTop (mkF mM 275 #[.val (.int p1), .val (.int p2), .val (.int p3), .val (.int p4), .val (.int bt), .val (.int ev), .val (.int tv), .val (.int s0), .val (.int s1), .val (.int s2), .val (.int s3), .val (.int z), .val (.ref st), s13, .val (.ref b2_), .val (.ref b5_), .val (.ref b10_), .val (.ref b22_), .unset, .unset, .unset, .unset, .unset, .unset] [])) tT
            refine XS.iload X67_.here hx rfl (Jvm.hb hby at_275) rfl ?_
            show Steps pP.tables eE below (T67_.setTop (mkF mM 277 #[.val (.int p1), .val (.int p2), .val (.int p3), .val (.int p4), .val (.int bt), .val (.int ev), .val (.int tv), .val (.int s0), .val (.int s1), .val (.int s2), .val (.int s3), .val (.int z), .val (.ref st), s13, .val (.ref b2_), .val (.ref b5_), .val (.ref b10_), .val (.ref b22_), .unset, .unset, .unset, .unset, .unset, .unset] [(.int ev)])) tT
            refine XS.iconst X67_.here hx rfl (Jvm.hb hby at_277) ?_
            show Steps pP.tables eE below (T67_.setTop (mkF mM 278 #[.val (.int p1), .val (.int p2), .val (.int p3), .val (.int p4), .val (.int bt), .val (.int ev), .val (.int tv), .val (.int s0), .val (.int s1), .val (.int s2), .val (.int s3), .val (.int z), .val (.ref st), s13, .val (.ref b2_), .val (.ref b5_), .val (.ref b10_), .val (.ref b22_), .unset, .unset, .unset, .unset, .unset, .unset] [(.int (2 : Int32)), (.int ev)])) tT
            refine XS.icmpNo X67_.here hx rfl (Jvm.hb hby at_278) rfl (teq (hm3 : ev = (2 : Int32))).2 ?_
            show Steps pP.tables eE below (T67_.setTop (mkF mM 281 #[.val (.int p1), .val (.int p2), .val (.int p3), .val (.int p4), .val (.int bt), .val (.int ev), .val (.int tv), .val (.int s0), .val (.int s1), .val (.int s2), .val (.int s3), .val (.int z), .val (.ref st), s13, .val (.ref b2_), .val (.ref b5_), .val (.ref b10_), .val (.ref b22_), .unset, .unset, .unset, .unset, .unset, .unset] [])) tT
            refine XS.iload X67_.here hx rfl (Jvm.hb hby at_281) rfl ?_
            show Steps pP.tables eE below (T67_.setTop (mkF mM 283 #[.val (.int p1), .val (.int p2), .val (.int p3), .val (.int p4), .val (.int bt), .val (.int ev), .val (.int tv), .val (.int s0), .val (.int s1), .val (.int s2), .val (.int s3), .val (.int z), .val (.ref st), s13, .val (.ref b2_), .val (.ref b5_), .val (.ref b10_), .val (.ref b22_), .unset, .unset, .unset, .unset, .unset, .unset] [(.int s2)])) tT
            refine XS.goto X67_.here hx rfl (pc0 := 283) (pc' := 288) rfl (Jvm.hb hby at_283) (by decide) (by decide) ?_
            show Steps pP.tables eE below (T67_.setTop (mkF mM 288 #[.val (.int p1), .val (.int p2), .val (.int p3), .val (.int p4), .val (.int bt), .val (.int ev), .val (.int tv), .val (.int s0), .val (.int s1), .val (.int s2), .val (.int s3), .val (.int z), .val (.ref st), s13, .val (.ref b2_), .val (.ref b5_), .val (.ref b10_), .val (.ref b22_), .unset, .unset, .unset, .unset, .unset, .unset] [(.int s2)])) tT
            exact kK
          · refine ⟨s3, by rw [if_neg hm1, if_neg hm2, if_neg hm3], fun tT kK => ?_⟩
            refine XS.ifYes X67_.here hx rfl (pc0 := 256) (pc' := 264) rfl (Jvm.hb hby at_256) rfl ((if0 _ _).trans (feq (hm1 : ¬ (ev = (0 : Int32)))).2) (by decide) (by decide) ?_
            show Steps pP.tables eE below (T67_.setTop (mkF mM 264 #[.val (.int p1), .val (.int p2), .val (.int p3), .val (.int p4), .val (.int bt), .val (.int ev), .val (.int tv), .val (.int s0), .val (.int s1), .val (.int s2), .val (.int s3), .val (.int z), .val (.ref st), s13, .val (.ref b2_), .val (.ref b5_), .val (.ref b10_), .val (.ref b22_), .unset, .unset, .unset, .unset, .unset, .unset] [])) tT
            refine XS.iload X67_.here hx rfl (Jvm.hb hby at_264) rfl ?_
            show Steps pP.tables eE below (T67_.setTop (mkF mM 266 #[.val (.int p1), .val (.int p2), .val (.int p3), .val (.int p4), .val (.int bt), .val (.int ev), .val (.int tv), .val (.int s0), .val (.int s1), .val (.int s2), .val (.int s3), .val (.int z), .val (.ref st), s13, .val (.ref b2_), .val (.ref b5_), .val (.ref b10_), .val (.ref b22_), .unset, .unset, .unset, .unset, .unset, .unset] [(.int ev)])) tT
            refine XS.iconst X67_.here hx rfl (Jvm.hb hby at_266) ?_
            show Steps pP.tables eE below (T67_.setTop (mkF mM 267 #[.val (.int p1), .val (.int p2), .val (.int p3), .val (.int p4), .val (.int bt), .val (.int ev), .val (.int tv), .val (.int s0), .val (.int s1), .val (.int s2), .val (.int s3), .val (.int z), .val (.ref st), s13, .val (.ref b2_), .val (.ref b5_), .val (.ref b10_), .val (.ref b22_), .unset, .unset, .unset, .unset, .unset, .unset] [(.int (1 : Int32)), (.int ev)])) tT
            refine XS.icmpYes X67_.here hx rfl (pc0 := 267) (pc' := 275) rfl (Jvm.hb hby at_267) rfl (feq (hm2 : ¬ (ev = (1 : Int32)))).2 (by decide) (by decide) ?_
            show Steps pP.tables eE below (T67_.setTop (mkF mM 275 #[.val (.int p1), .val (.int p2), .val (.int p3), .val (.int p4), .val (.int bt), .val (.int ev), .val (.int tv), .val (.int s0), .val (.int s1), .val (.int s2), .val (.int s3), .val (.int z), .val (.ref st), s13, .val (.ref b2_), .val (.ref b5_), .val (.ref b10_), .val (.ref b22_), .unset, .unset, .unset, .unset, .unset, .unset] [])) tT
            refine XS.iload X67_.here hx rfl (Jvm.hb hby at_275) rfl ?_
            show Steps pP.tables eE below (T67_.setTop (mkF mM 277 #[.val (.int p1), .val (.int p2), .val (.int p3), .val (.int p4), .val (.int bt), .val (.int ev), .val (.int tv), .val (.int s0), .val (.int s1), .val (.int s2), .val (.int s3), .val (.int z), .val (.ref st), s13, .val (.ref b2_), .val (.ref b5_), .val (.ref b10_), .val (.ref b22_), .unset, .unset, .unset, .unset, .unset, .unset] [(.int ev)])) tT
            refine XS.iconst X67_.here hx rfl (Jvm.hb hby at_277) ?_
            show Steps pP.tables eE below (T67_.setTop (mkF mM 278 #[.val (.int p1), .val (.int p2), .val (.int p3), .val (.int p4), .val (.int bt), .val (.int ev), .val (.int tv), .val (.int s0), .val (.int s1), .val (.int s2), .val (.int s3), .val (.int z), .val (.ref st), s13, .val (.ref b2_), .val (.ref b5_), .val (.ref b10_), .val (.ref b22_), .unset, .unset, .unset, .unset, .unset, .unset] [(.int (2 : Int32)), (.int ev)])) tT
            refine XS.icmpYes X67_.here hx rfl (pc0 := 278) (pc' := 286) rfl (Jvm.hb hby at_278) rfl (feq (hm3 : ¬ (ev = (2 : Int32)))).2 (by decide) (by decide) ?_
            show Steps pP.tables eE below (T67_.setTop (mkF mM 286 #[.val (.int p1), .val (.int p2), .val (.int p3), .val (.int p4), .val (.int bt), .val (.int ev), .val (.int tv), .val (.int s0), .val (.int s1), .val (.int s2), .val (.int s3), .val (.int z), .val (.ref st), s13, .val (.ref b2_), .val (.ref b5_), .val (.ref b10_), .val (.ref b22_), .unset, .unset, .unset, .unset, .unset, .unset] [])) tT
            refine XS.iload X67_.here hx rfl (Jvm.hb hby at_286) rfl ?_
            show Steps pP.tables eE below (T67_.setTop (mkF mM 288 #[.val (.int p1), .val (.int p2), .val (.int p3), .val (.int p4), .val (.int bt), .val (.int ev), .val (.int tv), .val (.int s0), .val (.int s1), .val (.int s2), .val (.int s3), .val (.int z), .val (.ref st), s13, .val (.ref b2_), .val (.ref b5_), .val (.ref b10_), .val (.ref b22_), .unset, .unset, .unset, .unset, .unset, .unset] [(.int s3)])) tT
            exact kK
    refine own_fin st74_ ?_
    show own_Fin pP eE below _ (T67_.setTop (mkF mM 288 #[.val (.int p1), .val (.int p2), .val (.int p3), .val (.int p4), .val (.int bt), .val (.int ev), .val (.int tv), .val (.int s0), .val (.int s1), .val (.int s2), .val (.int s3), .val (.int z), .val (.ref st), s13, .val (.ref b2_), .val (.ref b5_), .val (.ref b10_), .val (.ref b22_), .unset, .unset, .unset, .unset, .unset, .unset] [(.int ins)]))
    refine own_fin (b := T67_.setTop (mkF mM 292 #[.val (.int p1), .val (.int p2), .val (.int p3), .val (.int p4), .val (.int bt), .val (.int ev), .val (.int tv), .val (.int s0), .val (.int s1), .val (.int s2), .val (.int s3), .val (.int z), .val (.ref st), s13, .val (.ref b2_), .val (.ref b5_), .val (.ref b10_), .val (.ref b22_), .val (.int ins), .unset, .unset, .unset, .unset, .unset] [(.int ins)])) (fun tT kK => ?_) ?_
    · show Steps pP.tables eE below (T67_.setTop (mkF mM 288 #[.val (.int p1), .val (.int p2), .val (.int p3), .val (.int p4), .val (.int bt), .val (.int ev), .val (.int tv), .val (.int s0), .val (.int s1), .val (.int s2), .val (.int s3), .val (.int z), .val (.ref st), s13, .val (.ref b2_), .val (.ref b5_), .val (.ref b10_), .val (.ref b22_), .unset, .unset, .unset, .unset, .unset, .unset] [(.int ins)])) tT
      refine XS.istore X67_.here hx rfl (Jvm.hb hby at_288) rfl (l' := #[.val (.int p1), .val (.int p2), .val (.int p3), .val (.int p4), .val (.int bt), .val (.int ev), .val (.int tv), .val (.int s0), .val (.int s1), .val (.int s2), .val (.int s3), .val (.int z), .val (.ref st), s13, .val (.ref b2_), .val (.ref b5_), .val (.ref b10_), .val (.ref b22_), .val (.int ins), .unset, .unset, .unset, .unset, .unset]) rfl ?_
      show Steps pP.tables eE below (T67_.setTop (mkF mM 290 #[.val (.int p1), .val (.int p2), .val (.int p3), .val (.int p4), .val (.int bt), .val (.int ev), .val (.int tv), .val (.int s0), .val (.int s1), .val (.int s2), .val (.int s3), .val (.int z), .val (.ref st), s13, .val (.ref b2_), .val (.ref b5_), .val (.ref b10_), .val (.ref b22_), .val (.int ins), .unset, .unset, .unset, .unset, .unset] [])) tT
      refine XS.iload X67_.here hx rfl (Jvm.hb hby at_290) rfl ?_
      show Steps pP.tables eE below (T67_.setTop (mkF mM 292 #[.val (.int p1), .val (.int p2), .val (.int p3), .val (.int p4), .val (.int bt), .val (.int ev), .val (.int tv), .val (.int s0), .val (.int s1), .val (.int s2), .val (.int s3), .val (.int z), .val (.ref st), s13, .val (.ref b2_), .val (.ref b5_), .val (.ref b10_), .val (.ref b22_), .val (.int ins), .unset, .unset, .unset, .unset, .unset] [(.int ins)])) tT
      exact kK
    obtain ⟨pp, hpp, st75_⟩ : ∃ pp : UInt64, (pp = (if ins = (0 : Int32) then (0 : UInt64) else (own_sp z))) ∧ ∀ tT, Steps pP.tables eE below (T67_.setTop (mkF mM 304 #[.val (.int p1), .val (.int p2), .val (.int p3), .val (.int p4), .val (.int bt), .val (.int ev), .val (.int tv), .val (.int s0), .val (.int s1), .val (.int s2), .val (.int s3), .val (.int z), .val (.ref st), s13, .val (.ref b2_), .val (.ref b5_), .val (.ref b10_), .val (.ref b22_), .val (.int ins), .unset, .unset, .unset, .unset, .unset] [(.double pp)])) tT → Steps pP.tables eE below (T67_.setTop (mkF mM 292 #[.val (.int p1), .val (.int p2), .val (.int p3), .val (.int p4), .val (.int bt), .val (.int ev), .val (.int tv), .val (.int s0), .val (.int s1), .val (.int s2), .val (.int s3), .val (.int z), .val (.ref st), s13, .val (.ref b2_), .val (.ref b5_), .val (.ref b10_), .val (.ref b22_), .val (.int ins), .unset, .unset, .unset, .unset, .unset] [(.int ins)])) tT := by
      by_cases hm1 : ins = (0 : Int32)
      · refine ⟨(0 : UInt64), by rw [if_pos hm1], fun tT kK => ?_⟩
        refine XS.ifYes X67_.here hx rfl (pc0 := 292) (pc' := 303) rfl (Jvm.hb hby at_292) rfl ((if0 _ _).trans (teq (hm1 : ins = (0 : Int32))).1) (by decide) (by decide) ?_
        show Steps pP.tables eE below (T67_.setTop (mkF mM 303 #[.val (.int p1), .val (.int p2), .val (.int p3), .val (.int p4), .val (.int bt), .val (.int ev), .val (.int tv), .val (.int s0), .val (.int s1), .val (.int s2), .val (.int s3), .val (.int z), .val (.ref st), s13, .val (.ref b2_), .val (.ref b5_), .val (.ref b10_), .val (.ref b22_), .val (.int ins), .unset, .unset, .unset, .unset, .unset] [])) tT
        refine XS.dconst0 X67_.here hx rfl (Jvm.hb hby at_303) (v := (0 : UInt64)) rfl ?_
        show Steps pP.tables eE below (T67_.setTop (mkF mM 304 #[.val (.int p1), .val (.int p2), .val (.int p3), .val (.int p4), .val (.int bt), .val (.int ev), .val (.int tv), .val (.int s0), .val (.int s1), .val (.int s2), .val (.int s3), .val (.int z), .val (.ref st), s13, .val (.ref b2_), .val (.ref b5_), .val (.ref b10_), .val (.ref b22_), .val (.int ins), .unset, .unset, .unset, .unset, .unset] [(.double (0 : UInt64))])) tT
        exact kK
      · refine ⟨(own_sp z), by rw [if_neg hm1], fun tT kK => ?_⟩
        refine XS.ifNo X67_.here hx rfl (Jvm.hb hby at_292) rfl ((if0 _ _).trans (feq (hm1 : ¬ (ins = (0 : Int32)))).1) ?_
        show Steps pP.tables eE below (T67_.setTop (mkF mM 295 #[.val (.int p1), .val (.int p2), .val (.int p3), .val (.int p4), .val (.int bt), .val (.int ev), .val (.int tv), .val (.int s0), .val (.int s1), .val (.int s2), .val (.int s3), .val (.int z), .val (.ref st), s13, .val (.ref b2_), .val (.ref b5_), .val (.ref b10_), .val (.ref b22_), .val (.int ins), .unset, .unset, .unset, .unset, .unset] [])) tT
        refine XS.dconst1 X67_.here hx rfl (Jvm.hb hby at_295) (v := (4607182418800017408 : UInt64)) rfl ?_
        show Steps pP.tables eE below (T67_.setTop (mkF mM 296 #[.val (.int p1), .val (.int p2), .val (.int p3), .val (.int p4), .val (.int bt), .val (.int ev), .val (.int tv), .val (.int s0), .val (.int s1), .val (.int s2), .val (.int s3), .val (.int z), .val (.ref st), s13, .val (.ref b2_), .val (.ref b5_), .val (.ref b10_), .val (.ref b22_), .val (.int ins), .unset, .unset, .unset, .unset, .unset] [(.double (4607182418800017408 : UInt64))])) tT
        refine XS.iload X67_.here hx rfl (Jvm.hb hby at_296) rfl ?_
        show Steps pP.tables eE below (T67_.setTop (mkF mM 298 #[.val (.int p1), .val (.int p2), .val (.int p3), .val (.int p4), .val (.int bt), .val (.int ev), .val (.int tv), .val (.int s0), .val (.int s1), .val (.int s2), .val (.int s3), .val (.int z), .val (.ref st), s13, .val (.ref b2_), .val (.ref b5_), .val (.ref b10_), .val (.ref b22_), .val (.int ins), .unset, .unset, .unset, .unset, .unset] [(.int z), (.double (4607182418800017408 : UInt64))])) tT
        refine XS.i2dS X67_.here hx rfl (Jvm.hb hby at_298) rfl rfl ?_
        show Steps pP.tables eE below (T67_.setTop (mkF mM 299 #[.val (.int p1), .val (.int p2), .val (.int p3), .val (.int p4), .val (.int bt), .val (.int ev), .val (.int tv), .val (.int s0), .val (.int s1), .val (.int s2), .val (.int s3), .val (.int z), .val (.ref st), s13, .val (.ref b2_), .val (.ref b5_), .val (.ref b10_), .val (.ref b22_), .val (.int ins), .unset, .unset, .unset, .unset, .unset] [(.double (FP.i2d z)), (.double (4607182418800017408 : UInt64))])) tT
        refine XS.ddivS X67_.here hx rfl (Jvm.hb hby at_299) rfl (own_spn hSt.1).1 (v := (own_sp z)) rfl ?_
        show Steps pP.tables eE below (T67_.setTop (mkF mM 300 #[.val (.int p1), .val (.int p2), .val (.int p3), .val (.int p4), .val (.int bt), .val (.int ev), .val (.int tv), .val (.int s0), .val (.int s1), .val (.int s2), .val (.int s3), .val (.int z), .val (.ref st), s13, .val (.ref b2_), .val (.ref b5_), .val (.ref b10_), .val (.ref b22_), .val (.int ins), .unset, .unset, .unset, .unset, .unset] [(.double (own_sp z))])) tT
        refine XS.goto X67_.here hx rfl (pc0 := 300) (pc' := 304) rfl (Jvm.hb hby at_300) (by decide) (by decide) ?_
        show Steps pP.tables eE below (T67_.setTop (mkF mM 304 #[.val (.int p1), .val (.int p2), .val (.int p3), .val (.int p4), .val (.int bt), .val (.int ev), .val (.int tv), .val (.int s0), .val (.int s1), .val (.int s2), .val (.int s3), .val (.int z), .val (.ref st), s13, .val (.ref b2_), .val (.ref b5_), .val (.ref b10_), .val (.ref b22_), .val (.int ins), .unset, .unset, .unset, .unset, .unset] [(.double (own_sp z))])) tT
        exact kK
    refine own_fin st75_ ?_
    show own_Fin pP eE below _ (T67_.setTop (mkF mM 304 #[.val (.int p1), .val (.int p2), .val (.int p3), .val (.int p4), .val (.int bt), .val (.int ev), .val (.int tv), .val (.int s0), .val (.int s1), .val (.int s2), .val (.int s3), .val (.int z), .val (.ref st), s13, .val (.ref b2_), .val (.ref b5_), .val (.ref b10_), .val (.ref b22_), .val (.int ins), .unset, .unset, .unset, .unset, .unset] [(.double pp)]))
    refine own_fin (b := T67_.setTop (mkF mM 310 #[.val (.int p1), .val (.int p2), .val (.int p3), .val (.int p4), .val (.int bt), .val (.int ev), .val (.int tv), .val (.int s0), .val (.int s1), .val (.int s2), .val (.int s3), .val (.int z), .val (.ref st), s13, .val (.ref b2_), .val (.ref b5_), .val (.ref b10_), .val (.ref b22_), .val (.int ins), .val (.double pp), .second, .unset, .unset, .unset] [(.int ev), (.ref b22_)])) (fun tT kK => ?_) ?_
    · show Steps pP.tables eE below (T67_.setTop (mkF mM 304 #[.val (.int p1), .val (.int p2), .val (.int p3), .val (.int p4), .val (.int bt), .val (.int ev), .val (.int tv), .val (.int s0), .val (.int s1), .val (.int s2), .val (.int s3), .val (.int z), .val (.ref st), s13, .val (.ref b2_), .val (.ref b5_), .val (.ref b10_), .val (.ref b22_), .val (.int ins), .unset, .unset, .unset, .unset, .unset] [(.double pp)])) tT
      refine XS.dstore X67_.here hx rfl (Jvm.hb hby at_304) rfl (l' := #[.val (.int p1), .val (.int p2), .val (.int p3), .val (.int p4), .val (.int bt), .val (.int ev), .val (.int tv), .val (.int s0), .val (.int s1), .val (.int s2), .val (.int s3), .val (.int z), .val (.ref st), s13, .val (.ref b2_), .val (.ref b5_), .val (.ref b10_), .val (.ref b22_), .val (.int ins), .val (.double pp), .second, .unset, .unset, .unset]) rfl ?_
      show Steps pP.tables eE below (T67_.setTop (mkF mM 306 #[.val (.int p1), .val (.int p2), .val (.int p3), .val (.int p4), .val (.int bt), .val (.int ev), .val (.int tv), .val (.int s0), .val (.int s1), .val (.int s2), .val (.int s3), .val (.int z), .val (.ref st), s13, .val (.ref b2_), .val (.ref b5_), .val (.ref b10_), .val (.ref b22_), .val (.int ins), .val (.double pp), .second, .unset, .unset, .unset] [])) tT
      refine XS.aload X67_.here hx rfl (Jvm.hb hby at_306) rfl rfl ?_
      show Steps pP.tables eE below (T67_.setTop (mkF mM 308 #[.val (.int p1), .val (.int p2), .val (.int p3), .val (.int p4), .val (.int bt), .val (.int ev), .val (.int tv), .val (.int s0), .val (.int s1), .val (.int s2), .val (.int s3), .val (.int z), .val (.ref st), s13, .val (.ref b2_), .val (.ref b5_), .val (.ref b10_), .val (.ref b22_), .val (.int ins), .val (.double pp), .second, .unset, .unset, .unset] [(.ref b22_)])) tT
      refine XS.iload X67_.here hx rfl (Jvm.hb hby at_308) rfl ?_
      show Steps pP.tables eE below (T67_.setTop (mkF mM 310 #[.val (.int p1), .val (.int p2), .val (.int p3), .val (.int p4), .val (.int bt), .val (.int ev), .val (.int tv), .val (.int s0), .val (.int s1), .val (.int s2), .val (.int s3), .val (.int z), .val (.ref st), s13, .val (.ref b2_), .val (.ref b5_), .val (.ref b10_), .val (.ref b22_), .val (.int ins), .val (.double pp), .second, .unset, .unset, .unset] [(.int ev), (.ref b22_)])) tT
      exact kK
    obtain ⟨cq76_, kq76_, q76_a, q76_b, q76_c⟩ := isOf hZ rfl p67__1
    obtain ⟨_, _, ⟨T76_, L76_, k76_, n76_⟩, -, X76_, ⟨Lc76_, hQ76_, l76_, y76_, z76_⟩, st76_⟩ := X67_.virtualBack hx (y := (⟨"com/example/chains_to_rank/chainstorank/graph/DoubleArithmetic", "mass", "(I)D"⟩ : MethodName)) (z := (⟨"com/example/chains_to_rank/chainstorank/graph/DoubleArithmetic", "mass", "(I)D"⟩ : MethodName)) hown (mvT hZ (hw _ (List.mem_of_getElem? (i := 46) rfl))) (mvT hZ (hw _ (List.mem_of_getElem? (i := 47) rfl))) (notFace_of_selects (args := #[]) (mvT hZ (hw _ (List.mem_of_getElem? (i := 49) rfl)))) (mvT hZ (hw _ (List.mem_of_getElem? (i := 49) rfl))) (mvT hZ (hw _ (List.mem_of_getElem? (i := 48) rfl))) (by decide) (backOf (W := 0) (rm_mass lL Z a0 hw [] b22_ ev b1_31_ (own_ms f (own_sp z) z.toNatClampNeg) T67_.heap n0 (Nat.le_trans Z0 K67_.1) p67__2 p67__5 hei) hZ (hw _ (List.mem_of_getElem? (i := 50) rfl)) (hw _ (List.mem_of_getElem? (i := 4) rfl)) (by decide) (by decide)) q76_a q76_c (g := (mkF mM 310 #[.val (.int p1), .val (.int p2), .val (.int p3), .val (.int p4), .val (.int bt), .val (.int ev), .val (.int tv), .val (.int s0), .val (.int s1), .val (.int s2), .val (.int s3), .val (.int z), .val (.ref st), s13, .val (.ref b2_), .val (.ref b5_), .val (.ref b10_), .val (.ref b22_), .val (.int ins), .val (.double pp), .second, .unset, .unset, .unset] [(.int ev), (.ref b22_)])) rfl (by rw [hml]; rfl) (Steps.refl _) (argsL := [(.int ev)]) (rest := []) (lenOf own_pd8 rfl) rfl (by show 2 * 0 + _ ≤ _; exact Nat.le_of_eq rfl) (Jvm.hb hby at_310) (fun _ _ => ⟨rfl, rfl, (by decide : 8 + 0 ≤ _), (by decide : 22 + 0 ≤ _)⟩)
    dsimp only [Pt.U, Pt.locs, Pt.cells, Pt.slots] at X76_ l76_ y76_ z76_ st76_ hQ76_
    subst l76_ y76_ z76_
    obtain ⟨rfl, N76_q, p76__0⟩ := hQ76_
    have N76_ := Fr.app N67_ N76_q
    refine own_fin (fun tT kK => st76_.trans kK) ?_
    show own_Fin pP eE below _ (T76_.setTop (mkF mM 313 #[.val (.int p1), .val (.int p2), .val (.int p3), .val (.int p4), .val (.int bt), .val (.int ev), .val (.int tv), .val (.int s0), .val (.int s1), .val (.int s2), .val (.int s3), .val (.int z), .val (.ref st), s13, .val (.ref b2_), .val (.ref b5_), .val (.ref b10_), .val (.ref b22_), .val (.int ins), .val (.double pp), .second, .unset, .unset, .unset] [(.double ((own_ms f (own_sp z) z.toNatClampNeg) ev))]))
    refine own_fin (b := T76_.setTop (mkF mM 315 #[.val (.int p1), .val (.int p2), .val (.int p3), .val (.int p4), .val (.int bt), .val (.int ev), .val (.int tv), .val (.int s0), .val (.int s1), .val (.int s2), .val (.int s3), .val (.int z), .val (.ref st), s13, .val (.ref b2_), .val (.ref b5_), .val (.ref b10_), .val (.ref b22_), .val (.int ins), .val (.double pp), .second, .val (.double ((own_ms f (own_sp z) z.toNatClampNeg) ev)), .second, .unset] [])) (fun tT kK => ?_) ?_
    · show Steps pP.tables eE below (T76_.setTop (mkF mM 313 #[.val (.int p1), .val (.int p2), .val (.int p3), .val (.int p4), .val (.int bt), .val (.int ev), .val (.int tv), .val (.int s0), .val (.int s1), .val (.int s2), .val (.int s3), .val (.int z), .val (.ref st), s13, .val (.ref b2_), .val (.ref b5_), .val (.ref b10_), .val (.ref b22_), .val (.int ins), .val (.double pp), .second, .unset, .unset, .unset] [(.double ((own_ms f (own_sp z) z.toNatClampNeg) ev))])) tT
      refine XS.dstore X76_.here hx rfl (Jvm.hb hby at_313) rfl (l' := #[.val (.int p1), .val (.int p2), .val (.int p3), .val (.int p4), .val (.int bt), .val (.int ev), .val (.int tv), .val (.int s0), .val (.int s1), .val (.int s2), .val (.int s3), .val (.int z), .val (.ref st), s13, .val (.ref b2_), .val (.ref b5_), .val (.ref b10_), .val (.ref b22_), .val (.int ins), .val (.double pp), .second, .val (.double ((own_ms f (own_sp z) z.toNatClampNeg) ev)), .second, .unset]) rfl ?_
      show Steps pP.tables eE below (T76_.setTop (mkF mM 315 #[.val (.int p1), .val (.int p2), .val (.int p3), .val (.int p4), .val (.int bt), .val (.int ev), .val (.int tv), .val (.int s0), .val (.int s1), .val (.int s2), .val (.int s3), .val (.int z), .val (.ref st), s13, .val (.ref b2_), .val (.ref b5_), .val (.ref b10_), .val (.ref b22_), .val (.int ins), .val (.double pp), .second, .val (.double ((own_ms f (own_sp z) z.toNatClampNeg) ev)), .second, .unset] [])) tT
      exact kK
    have hme : ((own_ms f (own_sp z) z.toNatClampNeg) ev) = pp := by rw [hpp, hins]; exact hSt.2.2 _ ev he
    have hnx := own_xn hSt.1 hpp
    refine own_fin (b := T76_.setTop (mkF mM 319 #[.val (.int p1), .val (.int p2), .val (.int p3), .val (.int p4), .val (.int bt), .val (.int ev), .val (.int tv), .val (.int s0), .val (.int s1), .val (.int s2), .val (.int s3), .val (.int z), .val (.ref st), s13, .val (.ref b2_), .val (.ref b5_), .val (.ref b10_), .val (.ref b22_), .val (.int ins), .val (.double pp), .second, .val (.double ((own_ms f (own_sp z) z.toNatClampNeg) ev)), .second, .unset] [(.ref b10_), (.ref b22_)])) (fun tT kK => ?_) ?_
    · show Steps pP.tables eE below (T76_.setTop (mkF mM 315 #[.val (.int p1), .val (.int p2), .val (.int p3), .val (.int p4), .val (.int bt), .val (.int ev), .val (.int tv), .val (.int s0), .val (.int s1), .val (.int s2), .val (.int s3), .val (.int z), .val (.ref st), s13, .val (.ref b2_), .val (.ref b5_), .val (.ref b10_), .val (.ref b22_), .val (.int ins), .val (.double pp), .second, .val (.double ((own_ms f (own_sp z) z.toNatClampNeg) ev)), .second, .unset] [])) tT
      refine XS.aload X76_.here hx rfl (Jvm.hb hby at_315) rfl rfl ?_
      show Steps pP.tables eE below (T76_.setTop (mkF mM 317 #[.val (.int p1), .val (.int p2), .val (.int p3), .val (.int p4), .val (.int bt), .val (.int ev), .val (.int tv), .val (.int s0), .val (.int s1), .val (.int s2), .val (.int s3), .val (.int z), .val (.ref st), s13, .val (.ref b2_), .val (.ref b5_), .val (.ref b10_), .val (.ref b22_), .val (.int ins), .val (.double pp), .second, .val (.double ((own_ms f (own_sp z) z.toNatClampNeg) ev)), .second, .unset] [(.ref b22_)])) tT
      refine XS.aload X76_.here hx rfl (Jvm.hb hby at_317) rfl rfl ?_
      show Steps pP.tables eE below (T76_.setTop (mkF mM 319 #[.val (.int p1), .val (.int p2), .val (.int p3), .val (.int p4), .val (.int bt), .val (.int ev), .val (.int tv), .val (.int s0), .val (.int s1), .val (.int s2), .val (.int s3), .val (.int z), .val (.ref st), s13, .val (.ref b2_), .val (.ref b5_), .val (.ref b10_), .val (.ref b22_), .val (.int ins), .val (.double pp), .second, .val (.double ((own_ms f (own_sp z) z.toNatClampNeg) ev)), .second, .unset] [(.ref b10_), (.ref b22_)])) tT
      exact kK
    obtain ⟨cq77_, kq77_, q77_a, q77_b, q77_c⟩ := isOf hZ p76__0 p67__1
    obtain ⟨_, _, ⟨T77_, L77_, k77_, n77_⟩, -, X77_, ⟨Lc77_, hQ77_, l77_, y77_, z77_⟩, st77_⟩ := X76_.virtualBack hx (y := (⟨"com/example/chains_to_rank/chainstorank/graph/DoubleArithmetic", "distribution", "([I)Lcom/example/chains_to_rank/chainstorank/graph/Distribution;"⟩ : MethodName)) (z := (⟨"com/example/chains_to_rank/chainstorank/graph/DoubleArithmetic", "distribution", "([I)Lcom/example/chains_to_rank/chainstorank/graph/Distribution;"⟩ : MethodName)) hown (mvT hZ (hw _ (List.mem_of_getElem? (i := 51) rfl))) (mvT hZ (hw _ (List.mem_of_getElem? (i := 52) rfl))) (notFace_of_selects (args := #[]) (mvT hZ (hw _ (List.mem_of_getElem? (i := 54) rfl)))) (mvT hZ (hw _ (List.mem_of_getElem? (i := 54) rfl))) (mvT hZ (hw _ (List.mem_of_getElem? (i := 53) rfl))) (by decide) (backOf (W := 0) (rm_dist lL Z a0 hw [] b22_ b10_ b1_31_ ev k10_ (own_ms f (own_sp z) z.toNatClampNeg) T67_.heap n0 (Nat.le_trans Z0 K67_.1) p67__2 p67__3 p67__4 p67__5 fc71_ hei (by rw [hme]; exact hnx.2.1) (by rw [hme]; exact hnx.2.2)) hZ (hw _ (List.mem_of_getElem? (i := 55) rfl)) (hw _ (List.mem_of_getElem? (i := 4) rfl)) (by decide) (by decide)) q77_a q77_c (g := (mkF mM 319 #[.val (.int p1), .val (.int p2), .val (.int p3), .val (.int p4), .val (.int bt), .val (.int ev), .val (.int tv), .val (.int s0), .val (.int s1), .val (.int s2), .val (.int s3), .val (.int z), .val (.ref st), s13, .val (.ref b2_), .val (.ref b5_), .val (.ref b10_), .val (.ref b22_), .val (.int ins), .val (.double pp), .second, .val (.double ((own_ms f (own_sp z) z.toNatClampNeg) ev)), .second, .unset] [(.ref b10_), (.ref b22_)])) rfl (by rw [hml]; rfl) (Steps.refl _) (argsL := [(.ref b10_)]) (rest := []) (lenOf own_pd9 rfl) rfl (by show 2 * 0 + _ ≤ _; exact Nat.le_of_eq rfl) (Jvm.hb hby at_319) (fun _ _ => ⟨rfl, p76__0, (by decide : 8 + 3 ≤ _), (by decide : 22 + 5 ≤ _)⟩)
    dsimp only [Pt.U, Pt.locs, Pt.cells, Pt.slots] at X77_ l77_ y77_ z77_ st77_ hQ77_
    subst l77_ y77_ z77_
    obtain ⟨d_77_, b1_77_, b2_77_, rfl, N77_q, p77__0, p77__1, p77__2, p77__3, p77__4, p77__5⟩ := hQ77_
    have N77_ := Fr.app N76_ N77_q
    have fc78_ := fc68_.keep p77__0 nin0
    have fc79_ := fc69_.keep p77__0 nin0
    have fc80_ := fc70_.keep p77__0 nin0
    have fc81_ := fc71_.keep p77__0 nin0
    have fc82_ := p67__1.keep p77__0
    have fc83_ := fc73_.keep p77__0 nin0
    have fc84_ := p67__2.keep p77__0 nin0
    have fc85_ := p67__3.keep p77__0 nin0
    have fc86_ := p67__4.keep p77__0 nin0
    have fc87_ := p67__5.keep p77__0 nin0
    have K77_ := K67_.trans p77__0 all0
    refine own_fin (fun tT kK => st77_.trans kK) ?_
    show own_Fin pP eE below _ (T77_.setTop (mkF mM 322 #[.val (.int p1), .val (.int p2), .val (.int p3), .val (.int p4), .val (.int bt), .val (.int ev), .val (.int tv), .val (.int s0), .val (.int s1), .val (.int s2), .val (.int s3), .val (.int z), .val (.ref st), s13, .val (.ref b2_), .val (.ref b5_), .val (.ref b10_), .val (.ref b22_), .val (.int ins), .val (.double pp), .second, .val (.double ((own_ms f (own_sp z) z.toNatClampNeg) ev)), .second, .unset] [(.ref d_77_)]))
    refine own_fin (b := T77_.setTop (mkF mM 335 #[.val (.int p1), .val (.int p2), .val (.int p3), .val (.int p4), .val (.int bt), .val (.int ev), .val (.int tv), .val (.int s0), .val (.int s1), .val (.int s2), .val (.int s3), .val (.int z), .val (.ref st), s13, .val (.ref b2_), .val (.ref b5_), .val (.ref b10_), .val (.ref b22_), .val (.int ins), .val (.double pp), .second, .val (.double ((own_ms f (own_sp z) z.toNatClampNeg) ev)), .second, .val (.ref d_77_)] [(.int (0 : Int32)), (.ref d_77_)])) (fun tT kK => ?_) ?_
    · show Steps pP.tables eE below (T77_.setTop (mkF mM 322 #[.val (.int p1), .val (.int p2), .val (.int p3), .val (.int p4), .val (.int bt), .val (.int ev), .val (.int tv), .val (.int s0), .val (.int s1), .val (.int s2), .val (.int s3), .val (.int z), .val (.ref st), s13, .val (.ref b2_), .val (.ref b5_), .val (.ref b10_), .val (.ref b22_), .val (.int ins), .val (.double pp), .second, .val (.double ((own_ms f (own_sp z) z.toNatClampNeg) ev)), .second, .unset] [(.ref d_77_)])) tT
      refine XS.astore X77_.here hx rfl (Jvm.hb hby at_322) rfl rfl (l' := #[.val (.int p1), .val (.int p2), .val (.int p3), .val (.int p4), .val (.int bt), .val (.int ev), .val (.int tv), .val (.int s0), .val (.int s1), .val (.int s2), .val (.int s3), .val (.int z), .val (.ref st), s13, .val (.ref b2_), .val (.ref b5_), .val (.ref b10_), .val (.ref b22_), .val (.int ins), .val (.double pp), .second, .val (.double ((own_ms f (own_sp z) z.toNatClampNeg) ev)), .second, .val (.ref d_77_)]) rfl ?_
      show Steps pP.tables eE below (T77_.setTop (mkF mM 324 #[.val (.int p1), .val (.int p2), .val (.int p3), .val (.int p4), .val (.int bt), .val (.int ev), .val (.int tv), .val (.int s0), .val (.int s1), .val (.int s2), .val (.int s3), .val (.int z), .val (.ref st), s13, .val (.ref b2_), .val (.ref b5_), .val (.ref b10_), .val (.ref b22_), .val (.int ins), .val (.double pp), .second, .val (.double ((own_ms f (own_sp z) z.toNatClampNeg) ev)), .second, .val (.ref d_77_)] [])) tT
      refine XS.dload X77_.here hx rfl (Jvm.hb hby at_324) rfl ?_
      show Steps pP.tables eE below (T77_.setTop (mkF mM 326 #[.val (.int p1), .val (.int p2), .val (.int p3), .val (.int p4), .val (.int bt), .val (.int ev), .val (.int tv), .val (.int s0), .val (.int s1), .val (.int s2), .val (.int s3), .val (.int z), .val (.ref st), s13, .val (.ref b2_), .val (.ref b5_), .val (.ref b10_), .val (.ref b22_), .val (.int ins), .val (.double pp), .second, .val (.double ((own_ms f (own_sp z) z.toNatClampNeg) ev)), .second, .val (.ref d_77_)] [(.double ((own_ms f (own_sp z) z.toNatClampNeg) ev))])) tT
      refine XS.dload X77_.here hx rfl (Jvm.hb hby at_326) rfl ?_
      show Steps pP.tables eE below (T77_.setTop (mkF mM 328 #[.val (.int p1), .val (.int p2), .val (.int p3), .val (.int p4), .val (.int bt), .val (.int ev), .val (.int tv), .val (.int s0), .val (.int s1), .val (.int s2), .val (.int s3), .val (.int z), .val (.ref st), s13, .val (.ref b2_), .val (.ref b5_), .val (.ref b10_), .val (.ref b22_), .val (.int ins), .val (.double pp), .second, .val (.double ((own_ms f (own_sp z) z.toNatClampNeg) ev)), .second, .val (.ref d_77_)] [(.double pp), (.double ((own_ms f (own_sp z) z.toNatClampNeg) ev))])) tT
      refine XS.dcmpS X77_.here hx rfl (Jvm.hb hby at_328) rfl (v := (0 : Int32)) (dcmpV_eq hme (by rw [hme]; exact hnx.1) _) ?_
      show Steps pP.tables eE below (T77_.setTop (mkF mM 329 #[.val (.int p1), .val (.int p2), .val (.int p3), .val (.int p4), .val (.int bt), .val (.int ev), .val (.int tv), .val (.int s0), .val (.int s1), .val (.int s2), .val (.int s3), .val (.int z), .val (.ref st), s13, .val (.ref b2_), .val (.ref b5_), .val (.ref b10_), .val (.ref b22_), .val (.int ins), .val (.double pp), .second, .val (.double ((own_ms f (own_sp z) z.toNatClampNeg) ev)), .second, .val (.ref d_77_)] [(.int (0 : Int32))])) tT
      refine XS.ifNo X77_.here hx rfl (Jvm.hb hby at_329) rfl ((if0 _ _).trans (teq ((by decide) : (0 : Int32) = (0 : Int32))).2) ?_
      show Steps pP.tables eE below (T77_.setTop (mkF mM 332 #[.val (.int p1), .val (.int p2), .val (.int p3), .val (.int p4), .val (.int bt), .val (.int ev), .val (.int tv), .val (.int s0), .val (.int s1), .val (.int s2), .val (.int s3), .val (.int z), .val (.ref st), s13, .val (.ref b2_), .val (.ref b5_), .val (.ref b10_), .val (.ref b22_), .val (.int ins), .val (.double pp), .second, .val (.double ((own_ms f (own_sp z) z.toNatClampNeg) ev)), .second, .val (.ref d_77_)] [])) tT
      refine XS.aload X77_.here hx rfl (Jvm.hb hby at_332) rfl rfl ?_
      show Steps pP.tables eE below (T77_.setTop (mkF mM 334 #[.val (.int p1), .val (.int p2), .val (.int p3), .val (.int p4), .val (.int bt), .val (.int ev), .val (.int tv), .val (.int s0), .val (.int s1), .val (.int s2), .val (.int s3), .val (.int z), .val (.ref st), s13, .val (.ref b2_), .val (.ref b5_), .val (.ref b10_), .val (.ref b22_), .val (.int ins), .val (.double pp), .second, .val (.double ((own_ms f (own_sp z) z.toNatClampNeg) ev)), .second, .val (.ref d_77_)] [(.ref d_77_)])) tT
      refine XS.iconst X77_.here hx rfl (Jvm.hb hby at_334) ?_
      show Steps pP.tables eE below (T77_.setTop (mkF mM 335 #[.val (.int p1), .val (.int p2), .val (.int p3), .val (.int p4), .val (.int bt), .val (.int ev), .val (.int tv), .val (.int s0), .val (.int s1), .val (.int s2), .val (.int s3), .val (.int z), .val (.ref st), s13, .val (.ref b2_), .val (.ref b5_), .val (.ref b10_), .val (.ref b22_), .val (.int ins), .val (.double pp), .second, .val (.double ((own_ms f (own_sp z) z.toNatClampNeg) ev)), .second, .val (.ref d_77_)] [(.int (0 : Int32)), (.ref d_77_)])) tT
      exact kK
    obtain ⟨cq88_, kq88_, q88_a, q88_b, q88_c⟩ := isOf hZ rfl p77__1
    obtain ⟨_, _, ⟨T88_, L88_, k88_, n88_⟩, -, X88_, ⟨Lc88_, hQ88_, l88_, y88_, z88_⟩, st88_⟩ := X77_.virtualBack hx (y := (⟨"com/example/chains_to_rank/chainstorank/graph/Distribution", "probability", "(I)D"⟩ : MethodName)) (z := (⟨"com/example/chains_to_rank/chainstorank/graph/Distribution", "probability", "(I)D"⟩ : MethodName)) hown (mvT hZ (hw _ (List.mem_of_getElem? (i := 74) rfl))) (mvT hZ (hw _ (List.mem_of_getElem? (i := 75) rfl))) (notFace_of_selects (args := #[]) (mvT hZ (hw _ (List.mem_of_getElem? (i := 77) rfl)))) (mvT hZ (hw _ (List.mem_of_getElem? (i := 77) rfl))) (mvT hZ (hw _ (List.mem_of_getElem? (i := 76) rfl))) (by decide) (backOf (W := 0) (rm_probability lL Z a0 hw [] d_77_ b1_77_ ((own_ms f (own_sp z) z.toNatClampNeg) ev) T77_.heap n0 (Nat.le_trans Z0 K77_.1) p77__2 p77__4) hZ (hw _ (List.mem_of_getElem? (i := 78) rfl)) (hw _ (List.mem_of_getElem? (i := 58) rfl)) (by decide) (by decide)) q88_a q88_c (g := (mkF mM 335 #[.val (.int p1), .val (.int p2), .val (.int p3), .val (.int p4), .val (.int bt), .val (.int ev), .val (.int tv), .val (.int s0), .val (.int s1), .val (.int s2), .val (.int s3), .val (.int z), .val (.ref st), s13, .val (.ref b2_), .val (.ref b5_), .val (.ref b10_), .val (.ref b22_), .val (.int ins), .val (.double pp), .second, .val (.double ((own_ms f (own_sp z) z.toNatClampNeg) ev)), .second, .val (.ref d_77_)] [(.int (0 : Int32)), (.ref d_77_)])) rfl (by rw [hml]; rfl) (Steps.refl _) (argsL := [(.int (0 : Int32))]) (rest := []) (lenOf own_pd8 rfl) rfl (by show 2 * 0 + _ ≤ _; exact Nat.le_of_eq rfl) (Jvm.hb hby at_335) (fun _ _ => ⟨rfl, rfl, (by decide : 11 + 0 ≤ _), (by decide : 27 + 0 ≤ _)⟩)
    dsimp only [Pt.U, Pt.locs, Pt.cells, Pt.slots] at X88_ l88_ y88_ z88_ st88_ hQ88_
    subst l88_ y88_ z88_
    obtain ⟨rfl, N88_q, p88__0⟩ := hQ88_
    have N88_ := Fr.app N77_ N88_q
    refine own_fin (fun tT kK => st88_.trans kK) ?_
    show own_Fin pP eE below _ (T88_.setTop (mkF mM 338 #[.val (.int p1), .val (.int p2), .val (.int p3), .val (.int p4), .val (.int bt), .val (.int ev), .val (.int tv), .val (.int s0), .val (.int s1), .val (.int s2), .val (.int s3), .val (.int z), .val (.ref st), s13, .val (.ref b2_), .val (.ref b5_), .val (.ref b10_), .val (.ref b22_), .val (.int ins), .val (.double pp), .second, .val (.double ((own_ms f (own_sp z) z.toNatClampNeg) ev)), .second, .val (.ref d_77_)] [(.double ((own_ms f (own_sp z) z.toNatClampNeg) ev))]))
    refine own_fin (b := T88_.setTop (mkF mM 347 #[.val (.int p1), .val (.int p2), .val (.int p3), .val (.int p4), .val (.int bt), .val (.int ev), .val (.int tv), .val (.int s0), .val (.int s1), .val (.int s2), .val (.int s3), .val (.int z), .val (.ref st), s13, .val (.ref b2_), .val (.ref b5_), .val (.ref b10_), .val (.ref b22_), .val (.int ins), .val (.double pp), .second, .val (.double ((own_ms f (own_sp z) z.toNatClampNeg) ev)), .second, .val (.ref d_77_)] [(.int (0 : Int32)), (.ref d_77_)])) (fun tT kK => ?_) ?_
    · show Steps pP.tables eE below (T88_.setTop (mkF mM 338 #[.val (.int p1), .val (.int p2), .val (.int p3), .val (.int p4), .val (.int bt), .val (.int ev), .val (.int tv), .val (.int s0), .val (.int s1), .val (.int s2), .val (.int s3), .val (.int z), .val (.ref st), s13, .val (.ref b2_), .val (.ref b5_), .val (.ref b10_), .val (.ref b22_), .val (.int ins), .val (.double pp), .second, .val (.double ((own_ms f (own_sp z) z.toNatClampNeg) ev)), .second, .val (.ref d_77_)] [(.double ((own_ms f (own_sp z) z.toNatClampNeg) ev))])) tT
      refine XS.dload X88_.here hx rfl (Jvm.hb hby at_338) rfl ?_
      show Steps pP.tables eE below (T88_.setTop (mkF mM 340 #[.val (.int p1), .val (.int p2), .val (.int p3), .val (.int p4), .val (.int bt), .val (.int ev), .val (.int tv), .val (.int s0), .val (.int s1), .val (.int s2), .val (.int s3), .val (.int z), .val (.ref st), s13, .val (.ref b2_), .val (.ref b5_), .val (.ref b10_), .val (.ref b22_), .val (.int ins), .val (.double pp), .second, .val (.double ((own_ms f (own_sp z) z.toNatClampNeg) ev)), .second, .val (.ref d_77_)] [(.double pp), (.double ((own_ms f (own_sp z) z.toNatClampNeg) ev))])) tT
      refine XS.dcmpS X88_.here hx rfl (Jvm.hb hby at_340) rfl (v := (0 : Int32)) (dcmpV_eq hme (by rw [hme]; exact hnx.1) _) ?_
      show Steps pP.tables eE below (T88_.setTop (mkF mM 341 #[.val (.int p1), .val (.int p2), .val (.int p3), .val (.int p4), .val (.int bt), .val (.int ev), .val (.int tv), .val (.int s0), .val (.int s1), .val (.int s2), .val (.int s3), .val (.int z), .val (.ref st), s13, .val (.ref b2_), .val (.ref b5_), .val (.ref b10_), .val (.ref b22_), .val (.int ins), .val (.double pp), .second, .val (.double ((own_ms f (own_sp z) z.toNatClampNeg) ev)), .second, .val (.ref d_77_)] [(.int (0 : Int32))])) tT
      refine XS.ifNo X88_.here hx rfl (Jvm.hb hby at_341) rfl ((if0 _ _).trans (teq ((by decide) : (0 : Int32) = (0 : Int32))).2) ?_
      show Steps pP.tables eE below (T88_.setTop (mkF mM 344 #[.val (.int p1), .val (.int p2), .val (.int p3), .val (.int p4), .val (.int bt), .val (.int ev), .val (.int tv), .val (.int s0), .val (.int s1), .val (.int s2), .val (.int s3), .val (.int z), .val (.ref st), s13, .val (.ref b2_), .val (.ref b5_), .val (.ref b10_), .val (.ref b22_), .val (.int ins), .val (.double pp), .second, .val (.double ((own_ms f (own_sp z) z.toNatClampNeg) ev)), .second, .val (.ref d_77_)] [])) tT
      refine XS.aload X88_.here hx rfl (Jvm.hb hby at_344) rfl rfl ?_
      show Steps pP.tables eE below (T88_.setTop (mkF mM 346 #[.val (.int p1), .val (.int p2), .val (.int p3), .val (.int p4), .val (.int bt), .val (.int ev), .val (.int tv), .val (.int s0), .val (.int s1), .val (.int s2), .val (.int s3), .val (.int z), .val (.ref st), s13, .val (.ref b2_), .val (.ref b5_), .val (.ref b10_), .val (.ref b22_), .val (.int ins), .val (.double pp), .second, .val (.double ((own_ms f (own_sp z) z.toNatClampNeg) ev)), .second, .val (.ref d_77_)] [(.ref d_77_)])) tT
      refine XS.iconst X88_.here hx rfl (Jvm.hb hby at_346) ?_
      show Steps pP.tables eE below (T88_.setTop (mkF mM 347 #[.val (.int p1), .val (.int p2), .val (.int p3), .val (.int p4), .val (.int bt), .val (.int ev), .val (.int tv), .val (.int s0), .val (.int s1), .val (.int s2), .val (.int s3), .val (.int z), .val (.ref st), s13, .val (.ref b2_), .val (.ref b5_), .val (.ref b10_), .val (.ref b22_), .val (.int ins), .val (.double pp), .second, .val (.double ((own_ms f (own_sp z) z.toNatClampNeg) ev)), .second, .val (.ref d_77_)] [(.int (0 : Int32)), (.ref d_77_)])) tT
      exact kK
    obtain ⟨cq89_, kq89_, q89_a, q89_b, q89_c⟩ := isOf hZ p88__0 p77__1
    obtain ⟨_, _, ⟨T89_, L89_, k89_, n89_⟩, -, X89_, ⟨Lc89_, hQ89_, l89_, y89_, z89_⟩, st89_⟩ := X88_.virtualBack hx (y := (⟨"com/example/chains_to_rank/chainstorank/graph/Distribution", "errorBound", "(I)D"⟩ : MethodName)) (z := (⟨"com/example/chains_to_rank/chainstorank/graph/Distribution", "errorBound", "(I)D"⟩ : MethodName)) hown (mvT hZ (hw _ (List.mem_of_getElem? (i := 79) rfl))) (mvT hZ (hw _ (List.mem_of_getElem? (i := 80) rfl))) (notFace_of_selects (args := #[]) (mvT hZ (hw _ (List.mem_of_getElem? (i := 82) rfl)))) (mvT hZ (hw _ (List.mem_of_getElem? (i := 82) rfl))) (mvT hZ (hw _ (List.mem_of_getElem? (i := 81) rfl))) (by decide) (backOf (W := 0) (rm_errorBound lL Z a0 hw [] d_77_ b2_77_ (FP.dadd (FP.dmul ((own_ms f (own_sp z) z.toNatClampNeg) ev) (4377498837804122112 : UInt64)) (4503599627370496 : UInt64)) T77_.heap n0 (Nat.le_trans Z0 K77_.1) p77__3 p77__5) hZ (hw _ (List.mem_of_getElem? (i := 83) rfl)) (hw _ (List.mem_of_getElem? (i := 58) rfl)) (by decide) (by decide)) q89_a q89_c (g := (mkF mM 347 #[.val (.int p1), .val (.int p2), .val (.int p3), .val (.int p4), .val (.int bt), .val (.int ev), .val (.int tv), .val (.int s0), .val (.int s1), .val (.int s2), .val (.int s3), .val (.int z), .val (.ref st), s13, .val (.ref b2_), .val (.ref b5_), .val (.ref b10_), .val (.ref b22_), .val (.int ins), .val (.double pp), .second, .val (.double ((own_ms f (own_sp z) z.toNatClampNeg) ev)), .second, .val (.ref d_77_)] [(.int (0 : Int32)), (.ref d_77_)])) rfl (by rw [hml]; rfl) (Steps.refl _) (argsL := [(.int (0 : Int32))]) (rest := []) (lenOf own_pd8 rfl) rfl (by show 2 * 0 + _ ≤ _; exact Nat.le_of_eq rfl) (Jvm.hb hby at_347) (fun _ _ => ⟨rfl, p88__0, (by decide : 11 + 0 ≤ _), (by decide : 27 + 0 ≤ _)⟩)
    dsimp only [Pt.U, Pt.locs, Pt.cells, Pt.slots] at X89_ l89_ y89_ z89_ st89_ hQ89_
    subst l89_ y89_ z89_
    obtain ⟨rfl, N89_q, p89__0⟩ := hQ89_
    have N89_ := Fr.app N88_ N89_q
    refine own_fin (fun tT kK => st89_.trans kK) ?_
    show own_Fin pP eE below _ (T89_.setTop (mkF mM 350 #[.val (.int p1), .val (.int p2), .val (.int p3), .val (.int p4), .val (.int bt), .val (.int ev), .val (.int tv), .val (.int s0), .val (.int s1), .val (.int s2), .val (.int s3), .val (.int z), .val (.ref st), s13, .val (.ref b2_), .val (.ref b5_), .val (.ref b10_), .val (.ref b22_), .val (.int ins), .val (.double pp), .second, .val (.double ((own_ms f (own_sp z) z.toNatClampNeg) ev)), .second, .val (.ref d_77_)] [(.double (FP.dadd (FP.dmul ((own_ms f (own_sp z) z.toNatClampNeg) ev) (4377498837804122112 : UInt64)) (4503599627370496 : UInt64)))]))
    refine own_fin (b := T89_.setTop (mkF mM 369 #[.val (.int p1), .val (.int p2), .val (.int p3), .val (.int p4), .val (.int bt), .val (.int ev), .val (.int tv), .val (.int s0), .val (.int s1), .val (.int s2), .val (.int s3), .val (.int z), .val (.ref st), s13, .val (.ref b2_), .val (.ref b5_), .val (.ref b10_), .val (.ref b22_), .val (.int ins), .val (.double pp), .second, .val (.double ((own_ms f (own_sp z) z.toNatClampNeg) ev)), .second, .val (.ref d_77_)] [(.int (1 : Int32))])) (fun tT kK => ?_) ?_
    · show Steps pP.tables eE below (T89_.setTop (mkF mM 350 #[.val (.int p1), .val (.int p2), .val (.int p3), .val (.int p4), .val (.int bt), .val (.int ev), .val (.int tv), .val (.int s0), .val (.int s1), .val (.int s2), .val (.int s3), .val (.int z), .val (.ref st), s13, .val (.ref b2_), .val (.ref b5_), .val (.ref b10_), .val (.ref b22_), .val (.int ins), .val (.double pp), .second, .val (.double ((own_ms f (own_sp z) z.toNatClampNeg) ev)), .second, .val (.ref d_77_)] [(.double (FP.dadd (FP.dmul ((own_ms f (own_sp z) z.toNatClampNeg) ev) (4377498837804122112 : UInt64)) (4503599627370496 : UInt64)))])) tT
      refine XS.dload X89_.here hx rfl (Jvm.hb hby at_350) rfl ?_
      show Steps pP.tables eE below (T89_.setTop (mkF mM 352 #[.val (.int p1), .val (.int p2), .val (.int p3), .val (.int p4), .val (.int bt), .val (.int ev), .val (.int tv), .val (.int s0), .val (.int s1), .val (.int s2), .val (.int s3), .val (.int z), .val (.ref st), s13, .val (.ref b2_), .val (.ref b5_), .val (.ref b10_), .val (.ref b22_), .val (.int ins), .val (.double pp), .second, .val (.double ((own_ms f (own_sp z) z.toNatClampNeg) ev)), .second, .val (.ref d_77_)] [(.double pp), (.double (FP.dadd (FP.dmul ((own_ms f (own_sp z) z.toNatClampNeg) ev) (4377498837804122112 : UInt64)) (4503599627370496 : UInt64)))])) tT
      refine X89_.ldc2DoubleC hx hown (mvT hZ (hw _ (List.mem_of_getElem? (i := 84) rfl))) (g := (mkF mM 352 #[.val (.int p1), .val (.int p2), .val (.int p3), .val (.int p4), .val (.int bt), .val (.int ev), .val (.int tv), .val (.int s0), .val (.int s1), .val (.int s2), .val (.int s3), .val (.int z), .val (.ref st), s13, .val (.ref b2_), .val (.ref b5_), .val (.ref b10_), .val (.ref b22_), .val (.int ins), .val (.double pp), .second, .val (.double ((own_ms f (own_sp z) z.toNatClampNeg) ev)), .second, .val (.ref d_77_)] [(.double pp), (.double (FP.dadd (FP.dmul ((own_ms f (own_sp z) z.toNatClampNeg) ev) (4377498837804122112 : UInt64)) (4503599627370496 : UInt64)))])) rfl (Jvm.hb hby at_352) _ ?_
      show Steps pP.tables eE below (T89_.setTop (mkF mM 355 #[.val (.int p1), .val (.int p2), .val (.int p3), .val (.int p4), .val (.int bt), .val (.int ev), .val (.int tv), .val (.int s0), .val (.int s1), .val (.int s2), .val (.int s3), .val (.int z), .val (.ref st), s13, .val (.ref b2_), .val (.ref b5_), .val (.ref b10_), .val (.ref b22_), .val (.int ins), .val (.double pp), .second, .val (.double ((own_ms f (own_sp z) z.toNatClampNeg) ev)), .second, .val (.ref d_77_)] [(.double (4377498837804122112 : UInt64)), (.double pp), (.double (FP.dadd (FP.dmul ((own_ms f (own_sp z) z.toNatClampNeg) ev) (4377498837804122112 : UInt64)) (4503599627370496 : UInt64)))])) tT
      refine XS.dmulS X89_.here hx rfl (Jvm.hb hby at_355) rfl hnx.2.1 (v := (FP.dmul pp (4377498837804122112 : UInt64))) rfl ?_
      show Steps pP.tables eE below (T89_.setTop (mkF mM 356 #[.val (.int p1), .val (.int p2), .val (.int p3), .val (.int p4), .val (.int bt), .val (.int ev), .val (.int tv), .val (.int s0), .val (.int s1), .val (.int s2), .val (.int s3), .val (.int z), .val (.ref st), s13, .val (.ref b2_), .val (.ref b5_), .val (.ref b10_), .val (.ref b22_), .val (.int ins), .val (.double pp), .second, .val (.double ((own_ms f (own_sp z) z.toNatClampNeg) ev)), .second, .val (.ref d_77_)] [(.double (FP.dmul pp (4377498837804122112 : UInt64))), (.double (FP.dadd (FP.dmul ((own_ms f (own_sp z) z.toNatClampNeg) ev) (4377498837804122112 : UInt64)) (4503599627370496 : UInt64)))])) tT
      refine X89_.ldc2DoubleC hx hown (mvT hZ (hw _ (List.mem_of_getElem? (i := 85) rfl))) (g := (mkF mM 356 #[.val (.int p1), .val (.int p2), .val (.int p3), .val (.int p4), .val (.int bt), .val (.int ev), .val (.int tv), .val (.int s0), .val (.int s1), .val (.int s2), .val (.int s3), .val (.int z), .val (.ref st), s13, .val (.ref b2_), .val (.ref b5_), .val (.ref b10_), .val (.ref b22_), .val (.int ins), .val (.double pp), .second, .val (.double ((own_ms f (own_sp z) z.toNatClampNeg) ev)), .second, .val (.ref d_77_)] [(.double (FP.dmul pp (4377498837804122112 : UInt64))), (.double (FP.dadd (FP.dmul ((own_ms f (own_sp z) z.toNatClampNeg) ev) (4377498837804122112 : UInt64)) (4503599627370496 : UInt64)))])) rfl (Jvm.hb hby at_356) _ ?_
      show Steps pP.tables eE below (T89_.setTop (mkF mM 359 #[.val (.int p1), .val (.int p2), .val (.int p3), .val (.int p4), .val (.int bt), .val (.int ev), .val (.int tv), .val (.int s0), .val (.int s1), .val (.int s2), .val (.int s3), .val (.int z), .val (.ref st), s13, .val (.ref b2_), .val (.ref b5_), .val (.ref b10_), .val (.ref b22_), .val (.int ins), .val (.double pp), .second, .val (.double ((own_ms f (own_sp z) z.toNatClampNeg) ev)), .second, .val (.ref d_77_)] [(.double (4503599627370496 : UInt64)), (.double (FP.dmul pp (4377498837804122112 : UInt64))), (.double (FP.dadd (FP.dmul ((own_ms f (own_sp z) z.toNatClampNeg) ev) (4377498837804122112 : UInt64)) (4503599627370496 : UInt64)))])) tT
      refine XS.daddS X89_.here hx rfl (Jvm.hb hby at_359) rfl hnx.2.2 (v := (FP.dadd (FP.dmul pp (4377498837804122112 : UInt64)) (4503599627370496 : UInt64))) rfl ?_
      show Steps pP.tables eE below (T89_.setTop (mkF mM 360 #[.val (.int p1), .val (.int p2), .val (.int p3), .val (.int p4), .val (.int bt), .val (.int ev), .val (.int tv), .val (.int s0), .val (.int s1), .val (.int s2), .val (.int s3), .val (.int z), .val (.ref st), s13, .val (.ref b2_), .val (.ref b5_), .val (.ref b10_), .val (.ref b22_), .val (.int ins), .val (.double pp), .second, .val (.double ((own_ms f (own_sp z) z.toNatClampNeg) ev)), .second, .val (.ref d_77_)] [(.double (FP.dadd (FP.dmul pp (4377498837804122112 : UInt64)) (4503599627370496 : UInt64))), (.double (FP.dadd (FP.dmul ((own_ms f (own_sp z) z.toNatClampNeg) ev) (4377498837804122112 : UInt64)) (4503599627370496 : UInt64)))])) tT
      refine XS.dcmpS X89_.here hx rfl (Jvm.hb hby at_360) rfl (v := (0 : Int32)) (dcmpV_eq (by rw [hme]) (by rw [hme]; exact hnx.2.2) _) ?_
      show Steps pP.tables eE below (T89_.setTop (mkF mM 361 #[.val (.int p1), .val (.int p2), .val (.int p3), .val (.int p4), .val (.int bt), .val (.int ev), .val (.int tv), .val (.int s0), .val (.int s1), .val (.int s2), .val (.int s3), .val (.int z), .val (.ref st), s13, .val (.ref b2_), .val (.ref b5_), .val (.ref b10_), .val (.ref b22_), .val (.int ins), .val (.double pp), .second, .val (.double ((own_ms f (own_sp z) z.toNatClampNeg) ev)), .second, .val (.ref d_77_)] [(.int (0 : Int32))])) tT
      refine XS.ifNo X89_.here hx rfl (Jvm.hb hby at_361) rfl ((if0 _ _).trans (teq ((by decide) : (0 : Int32) = (0 : Int32))).2) ?_
      show Steps pP.tables eE below (T89_.setTop (mkF mM 364 #[.val (.int p1), .val (.int p2), .val (.int p3), .val (.int p4), .val (.int bt), .val (.int ev), .val (.int tv), .val (.int s0), .val (.int s1), .val (.int s2), .val (.int s3), .val (.int z), .val (.ref st), s13, .val (.ref b2_), .val (.ref b5_), .val (.ref b10_), .val (.ref b22_), .val (.int ins), .val (.double pp), .second, .val (.double ((own_ms f (own_sp z) z.toNatClampNeg) ev)), .second, .val (.ref d_77_)] [])) tT
      refine XS.iconst X89_.here hx rfl (Jvm.hb hby at_364) ?_
      show Steps pP.tables eE below (T89_.setTop (mkF mM 365 #[.val (.int p1), .val (.int p2), .val (.int p3), .val (.int p4), .val (.int bt), .val (.int ev), .val (.int tv), .val (.int s0), .val (.int s1), .val (.int s2), .val (.int s3), .val (.int z), .val (.ref st), s13, .val (.ref b2_), .val (.ref b5_), .val (.ref b10_), .val (.ref b22_), .val (.int ins), .val (.double pp), .second, .val (.double ((own_ms f (own_sp z) z.toNatClampNeg) ev)), .second, .val (.ref d_77_)] [(.int (1 : Int32))])) tT
      refine XS.goto X89_.here hx rfl (pc0 := 365) (pc' := 369) rfl (Jvm.hb hby at_365) (by decide) (by decide) ?_
      show Steps pP.tables eE below (T89_.setTop (mkF mM 369 #[.val (.int p1), .val (.int p2), .val (.int p3), .val (.int p4), .val (.int bt), .val (.int ev), .val (.int tv), .val (.int s0), .val (.int s1), .val (.int s2), .val (.int s3), .val (.int z), .val (.ref st), s13, .val (.ref b2_), .val (.ref b5_), .val (.ref b10_), .val (.ref b22_), .val (.int ins), .val (.double pp), .second, .val (.double ((own_ms f (own_sp z) z.toNatClampNeg) ev)), .second, .val (.ref d_77_)] [(.int (1 : Int32))])) tT
      exact kK
    obtain ⟨fs, hr, hrun, hended, hW, hsame⟩ := X89_.leave (v := some (.int (1 : Int32))) (fun h => by rw [Bd.returns] at h; cases h)
    refine ⟨_, _, ?_, hrun, hended, _, _, rfl, ?_, ⟨_, rfl⟩, hW, hsame.mono (by decide) (by decide)⟩
    · show Steps pP.tables eE below (T89_.setTop (mkF mM 369 #[.val (.int p1), .val (.int p2), .val (.int p3), .val (.int p4), .val (.int bt), .val (.int ev), .val (.int tv), .val (.int s0), .val (.int s1), .val (.int s2), .val (.int s3), .val (.int z), .val (.ref st), s13, .val (.ref b2_), .val (.ref b5_), .val (.ref b10_), .val (.ref b22_), .val (.int ins), .val (.double pp), .second, .val (.double ((own_ms f (own_sp z) z.toNatClampNeg) ev)), .second, .val (.ref d_77_)] [(.int (1 : Int32))])) _
      exact retN X89_ hx (t := .boolean) Bd.returns (by simp) (Jvm.hb hby at_369) hr
    · show Q_rm0 Z p1 p2 p3 p4 h0 n0 _ T89_.heap _
      rw [p89__0]
      exact ⟨rfl, N89_⟩
  rcases hb with rfl | rfl | rfl | rfl | rfl | rfl | rfl | rfl | rfl | rfl | rfl | rfl | rfl | rfl | rfl
  · show own_Fin pP eE below _ (s₁.setTop (mkF mM 23 #[.val (.int p1), .val (.int p2), .val (.int p3), .val (.int p4), .val (.int (1 : Int32)), .val (.int ev), .val (.int tv), .unset, .unset, .unset, .unset, .unset, .unset, .unset, .unset, .unset, .unset, .unset, .unset, .unset, .unset, .unset, .unset, .unset] []))
    refine own_fin (b := s₁.setTop (mkF mM 127 #[.val (.int p1), .val (.int p2), .val (.int p3), .val (.int p4), .val (.int (1 : Int32)), .val (.int ev), .val (.int tv), .val (.int (1 : Int32)), .val (.int (0 : Int32)), .val (.int (0 : Int32)), .val (.int (0 : Int32)), .val (.int (1 : Int32)), .unset, .unset, .unset, .unset, .unset, .unset, .unset, .unset, .unset, .unset, .unset, .unset] [(.int (1 : Int32))])) (fun tT kK => ?_) ?_
    · show Steps pP.tables eE below (s₁.setTop (mkF mM 23 #[.val (.int p1), .val (.int p2), .val (.int p3), .val (.int p4), .val (.int (1 : Int32)), .val (.int ev), .val (.int tv), .unset, .unset, .unset, .unset, .unset, .unset, .unset, .unset, .unset, .unset, .unset, .unset, .unset, .unset, .unset, .unset, .unset] [])) tT
      refine XS.iload X0.here hx rfl (Jvm.hb hby at_23) rfl ?_
      refine XS.iconst X0.here hx rfl (Jvm.hb hby at_25) ?_
      refine XS.iand X0.here hx rfl (Jvm.hb hby at_26) rfl ?_
      refine XS.ifNo X0.here hx rfl (Jvm.hb hby at_27) rfl ((if0 _ _).trans (feq ((by decide) : ¬ ((1 : Int32) = (0 : Int32)))).1) ?_
      refine XS.iconst X0.here hx rfl (Jvm.hb hby at_30) ?_
      refine XS.goto X0.here hx rfl (pc0 := 31) (pc' := 35) rfl (Jvm.hb hby at_31) (by decide) (by decide) ?_
      show Steps pP.tables eE below (s₁.setTop (mkF mM 35 #[.val (.int p1), .val (.int p2), .val (.int p3), .val (.int p4), .val (.int (1 : Int32)), .val (.int ev), .val (.int tv), .unset, .unset, .unset, .unset, .unset, .unset, .unset, .unset, .unset, .unset, .unset, .unset, .unset, .unset, .unset, .unset, .unset] [(.int (1 : Int32))])) tT
      refine XS.istore X0.here hx rfl (Jvm.hb hby at_35) rfl (l' := #[.val (.int p1), .val (.int p2), .val (.int p3), .val (.int p4), .val (.int (1 : Int32)), .val (.int ev), .val (.int tv), .val (.int (1 : Int32)), .unset, .unset, .unset, .unset, .unset, .unset, .unset, .unset, .unset, .unset, .unset, .unset, .unset, .unset, .unset, .unset]) rfl ?_
      refine XS.iload X0.here hx rfl (Jvm.hb hby at_37) rfl ?_
      refine XS.iconst X0.here hx rfl (Jvm.hb hby at_39) ?_
      refine XS.iand X0.here hx rfl (Jvm.hb hby at_40) rfl ?_
      refine XS.ifYes X0.here hx rfl (pc0 := 41) (pc' := 48) rfl (Jvm.hb hby at_41) rfl ((if0 _ _).trans (teq ((by decide) : (0 : Int32) = (0 : Int32))).1) (by decide) (by decide) ?_
      refine XS.iconst X0.here hx rfl (Jvm.hb hby at_48) ?_
      show Steps pP.tables eE below (s₁.setTop (mkF mM 49 #[.val (.int p1), .val (.int p2), .val (.int p3), .val (.int p4), .val (.int (1 : Int32)), .val (.int ev), .val (.int tv), .val (.int (1 : Int32)), .unset, .unset, .unset, .unset, .unset, .unset, .unset, .unset, .unset, .unset, .unset, .unset, .unset, .unset, .unset, .unset] [(.int (0 : Int32))])) tT
      refine XS.istore X0.here hx rfl (Jvm.hb hby at_49) rfl (l' := #[.val (.int p1), .val (.int p2), .val (.int p3), .val (.int p4), .val (.int (1 : Int32)), .val (.int ev), .val (.int tv), .val (.int (1 : Int32)), .val (.int (0 : Int32)), .unset, .unset, .unset, .unset, .unset, .unset, .unset, .unset, .unset, .unset, .unset, .unset, .unset, .unset, .unset]) rfl ?_
      refine XS.iload X0.here hx rfl (Jvm.hb hby at_51) rfl ?_
      refine XS.iconst X0.here hx rfl (Jvm.hb hby at_53) ?_
      refine XS.iand X0.here hx rfl (Jvm.hb hby at_54) rfl ?_
      refine XS.ifYes X0.here hx rfl (pc0 := 55) (pc' := 62) rfl (Jvm.hb hby at_55) rfl ((if0 _ _).trans (teq ((by decide) : (0 : Int32) = (0 : Int32))).1) (by decide) (by decide) ?_
      refine XS.iconst X0.here hx rfl (Jvm.hb hby at_62) ?_
      show Steps pP.tables eE below (s₁.setTop (mkF mM 63 #[.val (.int p1), .val (.int p2), .val (.int p3), .val (.int p4), .val (.int (1 : Int32)), .val (.int ev), .val (.int tv), .val (.int (1 : Int32)), .val (.int (0 : Int32)), .unset, .unset, .unset, .unset, .unset, .unset, .unset, .unset, .unset, .unset, .unset, .unset, .unset, .unset, .unset] [(.int (0 : Int32))])) tT
      refine XS.istore X0.here hx rfl (Jvm.hb hby at_63) rfl (l' := #[.val (.int p1), .val (.int p2), .val (.int p3), .val (.int p4), .val (.int (1 : Int32)), .val (.int ev), .val (.int tv), .val (.int (1 : Int32)), .val (.int (0 : Int32)), .val (.int (0 : Int32)), .unset, .unset, .unset, .unset, .unset, .unset, .unset, .unset, .unset, .unset, .unset, .unset, .unset, .unset]) rfl ?_
      refine XS.iload X0.here hx rfl (Jvm.hb hby at_65) rfl ?_
      refine XS.bipush X0.here hx rfl (Jvm.hb hby at_67) ?_
      refine XS.iand X0.here hx rfl (Jvm.hb hby at_69) rfl ?_
      refine XS.ifYes X0.here hx rfl (pc0 := 70) (pc' := 77) rfl (Jvm.hb hby at_70) rfl ((if0 _ _).trans (teq ((by decide) : (0 : Int32) = (0 : Int32))).1) (by decide) (by decide) ?_
      refine XS.iconst X0.here hx rfl (Jvm.hb hby at_77) ?_
      show Steps pP.tables eE below (s₁.setTop (mkF mM 78 #[.val (.int p1), .val (.int p2), .val (.int p3), .val (.int p4), .val (.int (1 : Int32)), .val (.int ev), .val (.int tv), .val (.int (1 : Int32)), .val (.int (0 : Int32)), .val (.int (0 : Int32)), .unset, .unset, .unset, .unset, .unset, .unset, .unset, .unset, .unset, .unset, .unset, .unset, .unset, .unset] [(.int (0 : Int32))])) tT
      refine XS.istore X0.here hx rfl (Jvm.hb hby at_78) rfl (l' := #[.val (.int p1), .val (.int p2), .val (.int p3), .val (.int p4), .val (.int (1 : Int32)), .val (.int ev), .val (.int tv), .val (.int (1 : Int32)), .val (.int (0 : Int32)), .val (.int (0 : Int32)), .val (.int (0 : Int32)), .unset, .unset, .unset, .unset, .unset, .unset, .unset, .unset, .unset, .unset, .unset, .unset, .unset]) rfl ?_
      refine XS.iload X0.here hx rfl (Jvm.hb hby at_80) rfl ?_
      refine XS.ifNo X0.here hx rfl (Jvm.hb hby at_82) rfl ((if0 _ _).trans (feq ((by decide) : ¬ ((1 : Int32) = (0 : Int32)))).1) ?_
      refine XS.iconst X0.here hx rfl (Jvm.hb hby at_85) ?_
      refine XS.goto X0.here hx rfl (pc0 := 86) (pc' := 90) rfl (Jvm.hb hby at_86) (by decide) (by decide) ?_
      refine XS.iload X0.here hx rfl (Jvm.hb hby at_90) rfl ?_
      show Steps pP.tables eE below (s₁.setTop (mkF mM 92 #[.val (.int p1), .val (.int p2), .val (.int p3), .val (.int p4), .val (.int (1 : Int32)), .val (.int ev), .val (.int tv), .val (.int (1 : Int32)), .val (.int (0 : Int32)), .val (.int (0 : Int32)), .val (.int (0 : Int32)), .unset, .unset, .unset, .unset, .unset, .unset, .unset, .unset, .unset, .unset, .unset, .unset, .unset] [(.int (0 : Int32)), (.int (1 : Int32))])) tT
      refine XS.ifYes X0.here hx rfl (pc0 := 92) (pc' := 99) rfl (Jvm.hb hby at_92) rfl ((if0 _ _).trans (teq ((by decide) : (0 : Int32) = (0 : Int32))).1) (by decide) (by decide) ?_
      refine XS.iconst X0.here hx rfl (Jvm.hb hby at_99) ?_
      refine XS.iadd X0.here hx rfl (Jvm.hb hby at_100) rfl ?_
      refine XS.iload X0.here hx rfl (Jvm.hb hby at_101) rfl ?_
      refine XS.ifYes X0.here hx rfl (pc0 := 103) (pc' := 110) rfl (Jvm.hb hby at_103) rfl ((if0 _ _).trans (teq ((by decide) : (0 : Int32) = (0 : Int32))).1) (by decide) (by decide) ?_
      refine XS.iconst X0.here hx rfl (Jvm.hb hby at_110) ?_
      show Steps pP.tables eE below (s₁.setTop (mkF mM 111 #[.val (.int p1), .val (.int p2), .val (.int p3), .val (.int p4), .val (.int (1 : Int32)), .val (.int ev), .val (.int tv), .val (.int (1 : Int32)), .val (.int (0 : Int32)), .val (.int (0 : Int32)), .val (.int (0 : Int32)), .unset, .unset, .unset, .unset, .unset, .unset, .unset, .unset, .unset, .unset, .unset, .unset, .unset] [(.int (0 : Int32)), (.int (1 : Int32))])) tT
      refine XS.iadd X0.here hx rfl (Jvm.hb hby at_111) rfl ?_
      refine XS.iload X0.here hx rfl (Jvm.hb hby at_112) rfl ?_
      refine XS.ifYes X0.here hx rfl (pc0 := 114) (pc' := 121) rfl (Jvm.hb hby at_114) rfl ((if0 _ _).trans (teq ((by decide) : (0 : Int32) = (0 : Int32))).1) (by decide) (by decide) ?_
      refine XS.iconst X0.here hx rfl (Jvm.hb hby at_121) ?_
      refine XS.iadd X0.here hx rfl (Jvm.hb hby at_122) rfl ?_
      refine XS.istore X0.here hx rfl (Jvm.hb hby at_123) rfl (l' := #[.val (.int p1), .val (.int p2), .val (.int p3), .val (.int p4), .val (.int (1 : Int32)), .val (.int ev), .val (.int tv), .val (.int (1 : Int32)), .val (.int (0 : Int32)), .val (.int (0 : Int32)), .val (.int (0 : Int32)), .val (.int (1 : Int32)), .unset, .unset, .unset, .unset, .unset, .unset, .unset, .unset, .unset, .unset, .unset, .unset]) rfl ?_
      show Steps pP.tables eE below (s₁.setTop (mkF mM 125 #[.val (.int p1), .val (.int p2), .val (.int p3), .val (.int p4), .val (.int (1 : Int32)), .val (.int ev), .val (.int tv), .val (.int (1 : Int32)), .val (.int (0 : Int32)), .val (.int (0 : Int32)), .val (.int (0 : Int32)), .val (.int (1 : Int32)), .unset, .unset, .unset, .unset, .unset, .unset, .unset, .unset, .unset, .unset, .unset, .unset] [])) tT
      refine XS.iload X0.here hx rfl (Jvm.hb hby at_125) rfl ?_
      exact kK
    obtain ⟨T90_, h90_, k90_, X90_, e90_, E90_, A90_, st90_⟩ := newP X0 hx hZ (hw _ (List.mem_of_getElem? (i := 1) rfl)) e0 (g := (mkF mM 127 #[.val (.int p1), .val (.int p2), .val (.int p3), .val (.int p4), .val (.int (1 : Int32)), .val (.int ev), .val (.int tv), .val (.int (1 : Int32)), .val (.int (0 : Int32)), .val (.int (0 : Int32)), .val (.int (0 : Int32)), .val (.int (1 : Int32)), .unset, .unset, .unset, .unset, .unset, .unset, .unset, .unset, .unset, .unset, .unset, .unset] [(.int (1 : Int32))])) rfl (Jvm.hb hby at_127) rfl (by decide) (cap := 4) (by decide) (by decide) (by decide) (by decide)
    obtain ⟨b90_, g90_⟩ : ∃ z, z = h0.size := ⟨_, rfl⟩
    rw [← g90_] at A90_ st90_
    have sz_b90_ : h0.size ≤ b90_ := Nat.le_trans K0.1 (Nat.le_of_eq g90_.symm)
    have ge_b90_ : n0 ≤ b90_ := Nat.le_trans Z0 sz_b90_
    have K90_ := K0.ext E90_
    have V90_ : own_T Z h90_ b90_ .int (1 : Int32) (fun _ => (0 : Int32)) := own_T.new A90_ (by decide) rfl
    refine own_fin st90_ ?_
    show own_Fin pP eE below _ (T90_.setTop (mkF mM 129 #[.val (.int p1), .val (.int p2), .val (.int p3), .val (.int p4), .val (.int (1 : Int32)), .val (.int ev), .val (.int tv), .val (.int (1 : Int32)), .val (.int (0 : Int32)), .val (.int (0 : Int32)), .val (.int (0 : Int32)), .val (.int (1 : Int32)), .unset, .unset, .unset, .unset, .unset, .unset, .unset, .unset, .unset, .unset, .unset, .unset] [(.ref b90_)]))
    refine own_fin (b := T90_.setTop (mkF mM 144 #[.val (.int p1), .val (.int p2), .val (.int p3), .val (.int p4), .val (.int (1 : Int32)), .val (.int ev), .val (.int tv), .val (.int (1 : Int32)), .val (.int (0 : Int32)), .val (.int (0 : Int32)), .val (.int (0 : Int32)), .val (.int (1 : Int32)), .val (.ref b90_), .val (.int (0 : Int32)), .unset, .unset, .unset, .unset, .unset, .unset, .unset, .unset, .unset, .unset] [(.int (0 : Int32)), (.int (0 : Int32)), (.ref b90_)])) (fun tT kK => ?_) ?_
    · show Steps pP.tables eE below (T90_.setTop (mkF mM 129 #[.val (.int p1), .val (.int p2), .val (.int p3), .val (.int p4), .val (.int (1 : Int32)), .val (.int ev), .val (.int tv), .val (.int (1 : Int32)), .val (.int (0 : Int32)), .val (.int (0 : Int32)), .val (.int (0 : Int32)), .val (.int (1 : Int32)), .unset, .unset, .unset, .unset, .unset, .unset, .unset, .unset, .unset, .unset, .unset, .unset] [(.ref b90_)])) tT
      refine XS.astore X90_.here hx rfl (Jvm.hb hby at_129) rfl rfl (l' := #[.val (.int p1), .val (.int p2), .val (.int p3), .val (.int p4), .val (.int (1 : Int32)), .val (.int ev), .val (.int tv), .val (.int (1 : Int32)), .val (.int (0 : Int32)), .val (.int (0 : Int32)), .val (.int (0 : Int32)), .val (.int (1 : Int32)), .val (.ref b90_), .unset, .unset, .unset, .unset, .unset, .unset, .unset, .unset, .unset, .unset, .unset]) rfl ?_
      refine XS.iconst X90_.here hx rfl (Jvm.hb hby at_131) ?_
      refine XS.istore X90_.here hx rfl (Jvm.hb hby at_132) rfl (l' := #[.val (.int p1), .val (.int p2), .val (.int p3), .val (.int p4), .val (.int (1 : Int32)), .val (.int ev), .val (.int tv), .val (.int (1 : Int32)), .val (.int (0 : Int32)), .val (.int (0 : Int32)), .val (.int (0 : Int32)), .val (.int (1 : Int32)), .val (.ref b90_), .val (.int (0 : Int32)), .unset, .unset, .unset, .unset, .unset, .unset, .unset, .unset, .unset, .unset]) rfl ?_
      refine XS.iload X90_.here hx rfl (Jvm.hb hby at_134) rfl ?_
      refine XS.ifNo X90_.here hx rfl (Jvm.hb hby at_136) rfl ((if0 _ _).trans (feq ((by decide) : ¬ ((1 : Int32) = (0 : Int32)))).1) ?_
      show Steps pP.tables eE below (T90_.setTop (mkF mM 139 #[.val (.int p1), .val (.int p2), .val (.int p3), .val (.int p4), .val (.int (1 : Int32)), .val (.int ev), .val (.int tv), .val (.int (1 : Int32)), .val (.int (0 : Int32)), .val (.int (0 : Int32)), .val (.int (0 : Int32)), .val (.int (1 : Int32)), .val (.ref b90_), .val (.int (0 : Int32)), .unset, .unset, .unset, .unset, .unset, .unset, .unset, .unset, .unset, .unset] [])) tT
      refine XS.aload X90_.here hx rfl (Jvm.hb hby at_139) rfl rfl ?_
      refine XS.iload X90_.here hx rfl (Jvm.hb hby at_141) rfl ?_
      refine XS.iconst X90_.here hx rfl (Jvm.hb hby at_143) ?_
      exact kK
    obtain ⟨cl91_, Ar91_, Sz91_, Nn91_, Hh91_⟩ := id V90_
    have hin91_ : ¬ ((0 : Int32) < 0 ∨ cl91_.slots.size ≤ ((0 : Int32)).toNatClampNeg) := inb_of Sz91_ ⟨by decide, by decide⟩
    obtain ⟨T91_, h91_, X91_, e91_, W91_, st91_⟩ := stI X90_ hx hZ e90_ Ar91_ (j := (0 : Int32)) hin91_ (g := (mkF mM 144 #[.val (.int p1), .val (.int p2), .val (.int p3), .val (.int p4), .val (.int (1 : Int32)), .val (.int ev), .val (.int tv), .val (.int (1 : Int32)), .val (.int (0 : Int32)), .val (.int (0 : Int32)), .val (.int (0 : Int32)), .val (.int (1 : Int32)), .val (.ref b90_), .val (.int (0 : Int32)), .unset, .unset, .unset, .unset, .unset, .unset, .unset, .unset, .unset, .unset] [(.int (0 : Int32)), (.int (0 : Int32)), (.ref b90_)])) rfl rfl (Jvm.hb hby at_144)
    have U91_ : own_T Z h91_ b90_ .int (1 : Int32) (own_up (fun _ => (0 : Int32)) (0 : Int32) (0 : Int32)) := own_T.set ⟨cl91_, Ar91_, Sz91_, Nn91_, Hh91_⟩ W91_ ⟨by decide, by decide⟩
    have K91_ := K90_.wr W91_ (Or.inr sz_b90_)
    have N91_ := Fr.snoc X91_ N0 ge_b90_
    refine own_fin st91_ ?_
    show own_Fin pP eE below _ (T91_.setTop (mkF mM 145 #[.val (.int p1), .val (.int p2), .val (.int p3), .val (.int p4), .val (.int (1 : Int32)), .val (.int ev), .val (.int tv), .val (.int (1 : Int32)), .val (.int (0 : Int32)), .val (.int (0 : Int32)), .val (.int (0 : Int32)), .val (.int (1 : Int32)), .val (.ref b90_), .val (.int (0 : Int32)), .unset, .unset, .unset, .unset, .unset, .unset, .unset, .unset, .unset, .unset] []))
    refine own_fin (b := T91_.setTop (mkF mM 190 #[.val (.int p1), .val (.int p2), .val (.int p3), .val (.int p4), .val (.int (1 : Int32)), .val (.int ev), .val (.int tv), .val (.int (1 : Int32)), .val (.int (0 : Int32)), .val (.int (0 : Int32)), .val (.int (0 : Int32)), .val (.int (1 : Int32)), .val (.ref b90_), .val (.int (1 : Int32)), .unset, .unset, .unset, .unset, .unset, .unset, .unset, .unset, .unset, .unset] [])) (fun tT kK => ?_) ?_
    · show Steps pP.tables eE below (T91_.setTop (mkF mM 145 #[.val (.int p1), .val (.int p2), .val (.int p3), .val (.int p4), .val (.int (1 : Int32)), .val (.int ev), .val (.int tv), .val (.int (1 : Int32)), .val (.int (0 : Int32)), .val (.int (0 : Int32)), .val (.int (0 : Int32)), .val (.int (1 : Int32)), .val (.ref b90_), .val (.int (0 : Int32)), .unset, .unset, .unset, .unset, .unset, .unset, .unset, .unset, .unset, .unset] [])) tT
      refine XS.iinc X91_.here hx rfl (Jvm.hb hby at_145) rfl (l' := #[.val (.int p1), .val (.int p2), .val (.int p3), .val (.int p4), .val (.int (1 : Int32)), .val (.int ev), .val (.int tv), .val (.int (1 : Int32)), .val (.int (0 : Int32)), .val (.int (0 : Int32)), .val (.int (0 : Int32)), .val (.int (1 : Int32)), .val (.ref b90_), .val (.int (1 : Int32)), .unset, .unset, .unset, .unset, .unset, .unset, .unset, .unset, .unset, .unset]) rfl ?_
      refine XS.iload X91_.here hx rfl (Jvm.hb hby at_148) rfl ?_
      refine XS.ifYes X91_.here hx rfl (pc0 := 150) (pc' := 162) rfl (Jvm.hb hby at_150) rfl ((if0 _ _).trans (teq ((by decide) : (0 : Int32) = (0 : Int32))).1) (by decide) (by decide) ?_
      show Steps pP.tables eE below (T91_.setTop (mkF mM 162 #[.val (.int p1), .val (.int p2), .val (.int p3), .val (.int p4), .val (.int (1 : Int32)), .val (.int ev), .val (.int tv), .val (.int (1 : Int32)), .val (.int (0 : Int32)), .val (.int (0 : Int32)), .val (.int (0 : Int32)), .val (.int (1 : Int32)), .val (.ref b90_), .val (.int (1 : Int32)), .unset, .unset, .unset, .unset, .unset, .unset, .unset, .unset, .unset, .unset] [])) tT
      refine XS.iload X91_.here hx rfl (Jvm.hb hby at_162) rfl ?_
      refine XS.ifYes X91_.here hx rfl (pc0 := 164) (pc' := 176) rfl (Jvm.hb hby at_164) rfl ((if0 _ _).trans (teq ((by decide) : (0 : Int32) = (0 : Int32))).1) (by decide) (by decide) ?_
      refine XS.iload X91_.here hx rfl (Jvm.hb hby at_176) rfl ?_
      refine XS.ifYes X91_.here hx rfl (pc0 := 178) (pc' := 190) rfl (Jvm.hb hby at_178) rfl ((if0 _ _).trans (teq ((by decide) : (0 : Int32) = (0 : Int32))).1) (by decide) (by decide) ?_
      exact kK
    show own_Fin pP eE below _ (T91_.setTop (mkF mM 190 #[.val (.int p1), .val (.int p2), .val (.int p3), .val (.int p4), .val (.int (1 : Int32)), .val (.int ev), .val (.int tv), .val (.int (1 : Int32)), .val (.int (0 : Int32)), .val (.int (0 : Int32)), .val (.int (0 : Int32)), .val (.int (1 : Int32)), .val (.ref b90_), .val (.int (1 : Int32)), .unset, .unset, .unset, .unset, .unset, .unset, .unset, .unset, .unset, .unset] []))
    exact jp1_ (1 : Int32) (0 : Int32) (0 : Int32) (0 : Int32) (1 : Int32) b90_ (own_up (fun _ => (0 : Int32)) (0 : Int32) (0 : Int32)) _ _ _ _ own_St1 ge_b90_ X91_ e91_ K91_ U91_ N91_
  · show own_Fin pP eE below _ (s₁.setTop (mkF mM 23 #[.val (.int p1), .val (.int p2), .val (.int p3), .val (.int p4), .val (.int (2 : Int32)), .val (.int ev), .val (.int tv), .unset, .unset, .unset, .unset, .unset, .unset, .unset, .unset, .unset, .unset, .unset, .unset, .unset, .unset, .unset, .unset, .unset] []))
    refine own_fin (b := s₁.setTop (mkF mM 127 #[.val (.int p1), .val (.int p2), .val (.int p3), .val (.int p4), .val (.int (2 : Int32)), .val (.int ev), .val (.int tv), .val (.int (0 : Int32)), .val (.int (1 : Int32)), .val (.int (0 : Int32)), .val (.int (0 : Int32)), .val (.int (1 : Int32)), .unset, .unset, .unset, .unset, .unset, .unset, .unset, .unset, .unset, .unset, .unset, .unset] [(.int (1 : Int32))])) (fun tT kK => ?_) ?_
    · show Steps pP.tables eE below (s₁.setTop (mkF mM 23 #[.val (.int p1), .val (.int p2), .val (.int p3), .val (.int p4), .val (.int (2 : Int32)), .val (.int ev), .val (.int tv), .unset, .unset, .unset, .unset, .unset, .unset, .unset, .unset, .unset, .unset, .unset, .unset, .unset, .unset, .unset, .unset, .unset] [])) tT
      refine XS.iload X0.here hx rfl (Jvm.hb hby at_23) rfl ?_
      refine XS.iconst X0.here hx rfl (Jvm.hb hby at_25) ?_
      refine XS.iand X0.here hx rfl (Jvm.hb hby at_26) rfl ?_
      refine XS.ifYes X0.here hx rfl (pc0 := 27) (pc' := 34) rfl (Jvm.hb hby at_27) rfl ((if0 _ _).trans (teq ((by decide) : (0 : Int32) = (0 : Int32))).1) (by decide) (by decide) ?_
      refine XS.iconst X0.here hx rfl (Jvm.hb hby at_34) ?_
      refine XS.istore X0.here hx rfl (Jvm.hb hby at_35) rfl (l' := #[.val (.int p1), .val (.int p2), .val (.int p3), .val (.int p4), .val (.int (2 : Int32)), .val (.int ev), .val (.int tv), .val (.int (0 : Int32)), .unset, .unset, .unset, .unset, .unset, .unset, .unset, .unset, .unset, .unset, .unset, .unset, .unset, .unset, .unset, .unset]) rfl ?_
      show Steps pP.tables eE below (s₁.setTop (mkF mM 37 #[.val (.int p1), .val (.int p2), .val (.int p3), .val (.int p4), .val (.int (2 : Int32)), .val (.int ev), .val (.int tv), .val (.int (0 : Int32)), .unset, .unset, .unset, .unset, .unset, .unset, .unset, .unset, .unset, .unset, .unset, .unset, .unset, .unset, .unset, .unset] [])) tT
      refine XS.iload X0.here hx rfl (Jvm.hb hby at_37) rfl ?_
      refine XS.iconst X0.here hx rfl (Jvm.hb hby at_39) ?_
      refine XS.iand X0.here hx rfl (Jvm.hb hby at_40) rfl ?_
      refine XS.ifNo X0.here hx rfl (Jvm.hb hby at_41) rfl ((if0 _ _).trans (feq ((by decide) : ¬ ((2 : Int32) = (0 : Int32)))).1) ?_
      refine XS.iconst X0.here hx rfl (Jvm.hb hby at_44) ?_
      refine XS.goto X0.here hx rfl (pc0 := 45) (pc' := 49) rfl (Jvm.hb hby at_45) (by decide) (by decide) ?_
      show Steps pP.tables eE below (s₁.setTop (mkF mM 49 #[.val (.int p1), .val (.int p2), .val (.int p3), .val (.int p4), .val (.int (2 : Int32)), .val (.int ev), .val (.int tv), .val (.int (0 : Int32)), .unset, .unset, .unset, .unset, .unset, .unset, .unset, .unset, .unset, .unset, .unset, .unset, .unset, .unset, .unset, .unset] [(.int (1 : Int32))])) tT
      refine XS.istore X0.here hx rfl (Jvm.hb hby at_49) rfl (l' := #[.val (.int p1), .val (.int p2), .val (.int p3), .val (.int p4), .val (.int (2 : Int32)), .val (.int ev), .val (.int tv), .val (.int (0 : Int32)), .val (.int (1 : Int32)), .unset, .unset, .unset, .unset, .unset, .unset, .unset, .unset, .unset, .unset, .unset, .unset, .unset, .unset, .unset]) rfl ?_
      refine XS.iload X0.here hx rfl (Jvm.hb hby at_51) rfl ?_
      refine XS.iconst X0.here hx rfl (Jvm.hb hby at_53) ?_
      refine XS.iand X0.here hx rfl (Jvm.hb hby at_54) rfl ?_
      refine XS.ifYes X0.here hx rfl (pc0 := 55) (pc' := 62) rfl (Jvm.hb hby at_55) rfl ((if0 _ _).trans (teq ((by decide) : (0 : Int32) = (0 : Int32))).1) (by decide) (by decide) ?_
      refine XS.iconst X0.here hx rfl (Jvm.hb hby at_62) ?_
      show Steps pP.tables eE below (s₁.setTop (mkF mM 63 #[.val (.int p1), .val (.int p2), .val (.int p3), .val (.int p4), .val (.int (2 : Int32)), .val (.int ev), .val (.int tv), .val (.int (0 : Int32)), .val (.int (1 : Int32)), .unset, .unset, .unset, .unset, .unset, .unset, .unset, .unset, .unset, .unset, .unset, .unset, .unset, .unset, .unset] [(.int (0 : Int32))])) tT
      refine XS.istore X0.here hx rfl (Jvm.hb hby at_63) rfl (l' := #[.val (.int p1), .val (.int p2), .val (.int p3), .val (.int p4), .val (.int (2 : Int32)), .val (.int ev), .val (.int tv), .val (.int (0 : Int32)), .val (.int (1 : Int32)), .val (.int (0 : Int32)), .unset, .unset, .unset, .unset, .unset, .unset, .unset, .unset, .unset, .unset, .unset, .unset, .unset, .unset]) rfl ?_
      refine XS.iload X0.here hx rfl (Jvm.hb hby at_65) rfl ?_
      refine XS.bipush X0.here hx rfl (Jvm.hb hby at_67) ?_
      refine XS.iand X0.here hx rfl (Jvm.hb hby at_69) rfl ?_
      refine XS.ifYes X0.here hx rfl (pc0 := 70) (pc' := 77) rfl (Jvm.hb hby at_70) rfl ((if0 _ _).trans (teq ((by decide) : (0 : Int32) = (0 : Int32))).1) (by decide) (by decide) ?_
      refine XS.iconst X0.here hx rfl (Jvm.hb hby at_77) ?_
      show Steps pP.tables eE below (s₁.setTop (mkF mM 78 #[.val (.int p1), .val (.int p2), .val (.int p3), .val (.int p4), .val (.int (2 : Int32)), .val (.int ev), .val (.int tv), .val (.int (0 : Int32)), .val (.int (1 : Int32)), .val (.int (0 : Int32)), .unset, .unset, .unset, .unset, .unset, .unset, .unset, .unset, .unset, .unset, .unset, .unset, .unset, .unset] [(.int (0 : Int32))])) tT
      refine XS.istore X0.here hx rfl (Jvm.hb hby at_78) rfl (l' := #[.val (.int p1), .val (.int p2), .val (.int p3), .val (.int p4), .val (.int (2 : Int32)), .val (.int ev), .val (.int tv), .val (.int (0 : Int32)), .val (.int (1 : Int32)), .val (.int (0 : Int32)), .val (.int (0 : Int32)), .unset, .unset, .unset, .unset, .unset, .unset, .unset, .unset, .unset, .unset, .unset, .unset, .unset]) rfl ?_
      refine XS.iload X0.here hx rfl (Jvm.hb hby at_80) rfl ?_
      refine XS.ifYes X0.here hx rfl (pc0 := 82) (pc' := 89) rfl (Jvm.hb hby at_82) rfl ((if0 _ _).trans (teq ((by decide) : (0 : Int32) = (0 : Int32))).1) (by decide) (by decide) ?_
      refine XS.iconst X0.here hx rfl (Jvm.hb hby at_89) ?_
      refine XS.iload X0.here hx rfl (Jvm.hb hby at_90) rfl ?_
      refine XS.ifNo X0.here hx rfl (Jvm.hb hby at_92) rfl ((if0 _ _).trans (feq ((by decide) : ¬ ((1 : Int32) = (0 : Int32)))).1) ?_
      show Steps pP.tables eE below (s₁.setTop (mkF mM 95 #[.val (.int p1), .val (.int p2), .val (.int p3), .val (.int p4), .val (.int (2 : Int32)), .val (.int ev), .val (.int tv), .val (.int (0 : Int32)), .val (.int (1 : Int32)), .val (.int (0 : Int32)), .val (.int (0 : Int32)), .unset, .unset, .unset, .unset, .unset, .unset, .unset, .unset, .unset, .unset, .unset, .unset, .unset] [(.int (0 : Int32))])) tT
      refine XS.iconst X0.here hx rfl (Jvm.hb hby at_95) ?_
      refine XS.goto X0.here hx rfl (pc0 := 96) (pc' := 100) rfl (Jvm.hb hby at_96) (by decide) (by decide) ?_
      refine XS.iadd X0.here hx rfl (Jvm.hb hby at_100) rfl ?_
      refine XS.iload X0.here hx rfl (Jvm.hb hby at_101) rfl ?_
      refine XS.ifYes X0.here hx rfl (pc0 := 103) (pc' := 110) rfl (Jvm.hb hby at_103) rfl ((if0 _ _).trans (teq ((by decide) : (0 : Int32) = (0 : Int32))).1) (by decide) (by decide) ?_
      refine XS.iconst X0.here hx rfl (Jvm.hb hby at_110) ?_
      show Steps pP.tables eE below (s₁.setTop (mkF mM 111 #[.val (.int p1), .val (.int p2), .val (.int p3), .val (.int p4), .val (.int (2 : Int32)), .val (.int ev), .val (.int tv), .val (.int (0 : Int32)), .val (.int (1 : Int32)), .val (.int (0 : Int32)), .val (.int (0 : Int32)), .unset, .unset, .unset, .unset, .unset, .unset, .unset, .unset, .unset, .unset, .unset, .unset, .unset] [(.int (0 : Int32)), (.int (1 : Int32))])) tT
      refine XS.iadd X0.here hx rfl (Jvm.hb hby at_111) rfl ?_
      refine XS.iload X0.here hx rfl (Jvm.hb hby at_112) rfl ?_
      refine XS.ifYes X0.here hx rfl (pc0 := 114) (pc' := 121) rfl (Jvm.hb hby at_114) rfl ((if0 _ _).trans (teq ((by decide) : (0 : Int32) = (0 : Int32))).1) (by decide) (by decide) ?_
      refine XS.iconst X0.here hx rfl (Jvm.hb hby at_121) ?_
      refine XS.iadd X0.here hx rfl (Jvm.hb hby at_122) rfl ?_
      refine XS.istore X0.here hx rfl (Jvm.hb hby at_123) rfl (l' := #[.val (.int p1), .val (.int p2), .val (.int p3), .val (.int p4), .val (.int (2 : Int32)), .val (.int ev), .val (.int tv), .val (.int (0 : Int32)), .val (.int (1 : Int32)), .val (.int (0 : Int32)), .val (.int (0 : Int32)), .val (.int (1 : Int32)), .unset, .unset, .unset, .unset, .unset, .unset, .unset, .unset, .unset, .unset, .unset, .unset]) rfl ?_
      show Steps pP.tables eE below (s₁.setTop (mkF mM 125 #[.val (.int p1), .val (.int p2), .val (.int p3), .val (.int p4), .val (.int (2 : Int32)), .val (.int ev), .val (.int tv), .val (.int (0 : Int32)), .val (.int (1 : Int32)), .val (.int (0 : Int32)), .val (.int (0 : Int32)), .val (.int (1 : Int32)), .unset, .unset, .unset, .unset, .unset, .unset, .unset, .unset, .unset, .unset, .unset, .unset] [])) tT
      refine XS.iload X0.here hx rfl (Jvm.hb hby at_125) rfl ?_
      exact kK
    obtain ⟨T92_, h92_, k92_, X92_, e92_, E92_, A92_, st92_⟩ := newP X0 hx hZ (hw _ (List.mem_of_getElem? (i := 1) rfl)) e0 (g := (mkF mM 127 #[.val (.int p1), .val (.int p2), .val (.int p3), .val (.int p4), .val (.int (2 : Int32)), .val (.int ev), .val (.int tv), .val (.int (0 : Int32)), .val (.int (1 : Int32)), .val (.int (0 : Int32)), .val (.int (0 : Int32)), .val (.int (1 : Int32)), .unset, .unset, .unset, .unset, .unset, .unset, .unset, .unset, .unset, .unset, .unset, .unset] [(.int (1 : Int32))])) rfl (Jvm.hb hby at_127) rfl (by decide) (cap := 4) (by decide) (by decide) (by decide) (by decide)
    obtain ⟨b92_, g92_⟩ : ∃ z, z = h0.size := ⟨_, rfl⟩
    rw [← g92_] at A92_ st92_
    have sz_b92_ : h0.size ≤ b92_ := Nat.le_trans K0.1 (Nat.le_of_eq g92_.symm)
    have ge_b92_ : n0 ≤ b92_ := Nat.le_trans Z0 sz_b92_
    have K92_ := K0.ext E92_
    have V92_ : own_T Z h92_ b92_ .int (1 : Int32) (fun _ => (0 : Int32)) := own_T.new A92_ (by decide) rfl
    refine own_fin st92_ ?_
    show own_Fin pP eE below _ (T92_.setTop (mkF mM 129 #[.val (.int p1), .val (.int p2), .val (.int p3), .val (.int p4), .val (.int (2 : Int32)), .val (.int ev), .val (.int tv), .val (.int (0 : Int32)), .val (.int (1 : Int32)), .val (.int (0 : Int32)), .val (.int (0 : Int32)), .val (.int (1 : Int32)), .unset, .unset, .unset, .unset, .unset, .unset, .unset, .unset, .unset, .unset, .unset, .unset] [(.ref b92_)]))
    refine own_fin (b := T92_.setTop (mkF mM 158 #[.val (.int p1), .val (.int p2), .val (.int p3), .val (.int p4), .val (.int (2 : Int32)), .val (.int ev), .val (.int tv), .val (.int (0 : Int32)), .val (.int (1 : Int32)), .val (.int (0 : Int32)), .val (.int (0 : Int32)), .val (.int (1 : Int32)), .val (.ref b92_), .val (.int (0 : Int32)), .unset, .unset, .unset, .unset, .unset, .unset, .unset, .unset, .unset, .unset] [(.int (1 : Int32)), (.int (0 : Int32)), (.ref b92_)])) (fun tT kK => ?_) ?_
    · show Steps pP.tables eE below (T92_.setTop (mkF mM 129 #[.val (.int p1), .val (.int p2), .val (.int p3), .val (.int p4), .val (.int (2 : Int32)), .val (.int ev), .val (.int tv), .val (.int (0 : Int32)), .val (.int (1 : Int32)), .val (.int (0 : Int32)), .val (.int (0 : Int32)), .val (.int (1 : Int32)), .unset, .unset, .unset, .unset, .unset, .unset, .unset, .unset, .unset, .unset, .unset, .unset] [(.ref b92_)])) tT
      refine XS.astore X92_.here hx rfl (Jvm.hb hby at_129) rfl rfl (l' := #[.val (.int p1), .val (.int p2), .val (.int p3), .val (.int p4), .val (.int (2 : Int32)), .val (.int ev), .val (.int tv), .val (.int (0 : Int32)), .val (.int (1 : Int32)), .val (.int (0 : Int32)), .val (.int (0 : Int32)), .val (.int (1 : Int32)), .val (.ref b92_), .unset, .unset, .unset, .unset, .unset, .unset, .unset, .unset, .unset, .unset, .unset]) rfl ?_
      refine XS.iconst X92_.here hx rfl (Jvm.hb hby at_131) ?_
      refine XS.istore X92_.here hx rfl (Jvm.hb hby at_132) rfl (l' := #[.val (.int p1), .val (.int p2), .val (.int p3), .val (.int p4), .val (.int (2 : Int32)), .val (.int ev), .val (.int tv), .val (.int (0 : Int32)), .val (.int (1 : Int32)), .val (.int (0 : Int32)), .val (.int (0 : Int32)), .val (.int (1 : Int32)), .val (.ref b92_), .val (.int (0 : Int32)), .unset, .unset, .unset, .unset, .unset, .unset, .unset, .unset, .unset, .unset]) rfl ?_
      refine XS.iload X92_.here hx rfl (Jvm.hb hby at_134) rfl ?_
      refine XS.ifYes X92_.here hx rfl (pc0 := 136) (pc' := 148) rfl (Jvm.hb hby at_136) rfl ((if0 _ _).trans (teq ((by decide) : (0 : Int32) = (0 : Int32))).1) (by decide) (by decide) ?_
      show Steps pP.tables eE below (T92_.setTop (mkF mM 148 #[.val (.int p1), .val (.int p2), .val (.int p3), .val (.int p4), .val (.int (2 : Int32)), .val (.int ev), .val (.int tv), .val (.int (0 : Int32)), .val (.int (1 : Int32)), .val (.int (0 : Int32)), .val (.int (0 : Int32)), .val (.int (1 : Int32)), .val (.ref b92_), .val (.int (0 : Int32)), .unset, .unset, .unset, .unset, .unset, .unset, .unset, .unset, .unset, .unset] [])) tT
      refine XS.iload X92_.here hx rfl (Jvm.hb hby at_148) rfl ?_
      refine XS.ifNo X92_.here hx rfl (Jvm.hb hby at_150) rfl ((if0 _ _).trans (feq ((by decide) : ¬ ((1 : Int32) = (0 : Int32)))).1) ?_
      refine XS.aload X92_.here hx rfl (Jvm.hb hby at_153) rfl rfl ?_
      refine XS.iload X92_.here hx rfl (Jvm.hb hby at_155) rfl ?_
      refine XS.iconst X92_.here hx rfl (Jvm.hb hby at_157) ?_
      exact kK
    obtain ⟨cl93_, Ar93_, Sz93_, Nn93_, Hh93_⟩ := id V92_
    have hin93_ : ¬ ((0 : Int32) < 0 ∨ cl93_.slots.size ≤ ((0 : Int32)).toNatClampNeg) := inb_of Sz93_ ⟨by decide, by decide⟩
    obtain ⟨T93_, h93_, X93_, e93_, W93_, st93_⟩ := stI X92_ hx hZ e92_ Ar93_ (j := (0 : Int32)) hin93_ (g := (mkF mM 158 #[.val (.int p1), .val (.int p2), .val (.int p3), .val (.int p4), .val (.int (2 : Int32)), .val (.int ev), .val (.int tv), .val (.int (0 : Int32)), .val (.int (1 : Int32)), .val (.int (0 : Int32)), .val (.int (0 : Int32)), .val (.int (1 : Int32)), .val (.ref b92_), .val (.int (0 : Int32)), .unset, .unset, .unset, .unset, .unset, .unset, .unset, .unset, .unset, .unset] [(.int (1 : Int32)), (.int (0 : Int32)), (.ref b92_)])) rfl rfl (Jvm.hb hby at_158)
    have U93_ : own_T Z h93_ b92_ .int (1 : Int32) (own_up (fun _ => (0 : Int32)) (0 : Int32) (1 : Int32)) := own_T.set ⟨cl93_, Ar93_, Sz93_, Nn93_, Hh93_⟩ W93_ ⟨by decide, by decide⟩
    have K93_ := K92_.wr W93_ (Or.inr sz_b92_)
    have N93_ := Fr.snoc X93_ N0 ge_b92_
    refine own_fin st93_ ?_
    show own_Fin pP eE below _ (T93_.setTop (mkF mM 159 #[.val (.int p1), .val (.int p2), .val (.int p3), .val (.int p4), .val (.int (2 : Int32)), .val (.int ev), .val (.int tv), .val (.int (0 : Int32)), .val (.int (1 : Int32)), .val (.int (0 : Int32)), .val (.int (0 : Int32)), .val (.int (1 : Int32)), .val (.ref b92_), .val (.int (0 : Int32)), .unset, .unset, .unset, .unset, .unset, .unset, .unset, .unset, .unset, .unset] []))
    refine own_fin (b := T93_.setTop (mkF mM 190 #[.val (.int p1), .val (.int p2), .val (.int p3), .val (.int p4), .val (.int (2 : Int32)), .val (.int ev), .val (.int tv), .val (.int (0 : Int32)), .val (.int (1 : Int32)), .val (.int (0 : Int32)), .val (.int (0 : Int32)), .val (.int (1 : Int32)), .val (.ref b92_), .val (.int (1 : Int32)), .unset, .unset, .unset, .unset, .unset, .unset, .unset, .unset, .unset, .unset] [])) (fun tT kK => ?_) ?_
    · show Steps pP.tables eE below (T93_.setTop (mkF mM 159 #[.val (.int p1), .val (.int p2), .val (.int p3), .val (.int p4), .val (.int (2 : Int32)), .val (.int ev), .val (.int tv), .val (.int (0 : Int32)), .val (.int (1 : Int32)), .val (.int (0 : Int32)), .val (.int (0 : Int32)), .val (.int (1 : Int32)), .val (.ref b92_), .val (.int (0 : Int32)), .unset, .unset, .unset, .unset, .unset, .unset, .unset, .unset, .unset, .unset] [])) tT
      refine XS.iinc X93_.here hx rfl (Jvm.hb hby at_159) rfl (l' := #[.val (.int p1), .val (.int p2), .val (.int p3), .val (.int p4), .val (.int (2 : Int32)), .val (.int ev), .val (.int tv), .val (.int (0 : Int32)), .val (.int (1 : Int32)), .val (.int (0 : Int32)), .val (.int (0 : Int32)), .val (.int (1 : Int32)), .val (.ref b92_), .val (.int (1 : Int32)), .unset, .unset, .unset, .unset, .unset, .unset, .unset, .unset, .unset, .unset]) rfl ?_
      show Steps pP.tables eE below (T93_.setTop (mkF mM 162 #[.val (.int p1), .val (.int p2), .val (.int p3), .val (.int p4), .val (.int (2 : Int32)), .val (.int ev), .val (.int tv), .val (.int (0 : Int32)), .val (.int (1 : Int32)), .val (.int (0 : Int32)), .val (.int (0 : Int32)), .val (.int (1 : Int32)), .val (.ref b92_), .val (.int (1 : Int32)), .unset, .unset, .unset, .unset, .unset, .unset, .unset, .unset, .unset, .unset] [])) tT
      refine XS.iload X93_.here hx rfl (Jvm.hb hby at_162) rfl ?_
      refine XS.ifYes X93_.here hx rfl (pc0 := 164) (pc' := 176) rfl (Jvm.hb hby at_164) rfl ((if0 _ _).trans (teq ((by decide) : (0 : Int32) = (0 : Int32))).1) (by decide) (by decide) ?_
      refine XS.iload X93_.here hx rfl (Jvm.hb hby at_176) rfl ?_
      refine XS.ifYes X93_.here hx rfl (pc0 := 178) (pc' := 190) rfl (Jvm.hb hby at_178) rfl ((if0 _ _).trans (teq ((by decide) : (0 : Int32) = (0 : Int32))).1) (by decide) (by decide) ?_
      exact kK
    show own_Fin pP eE below _ (T93_.setTop (mkF mM 190 #[.val (.int p1), .val (.int p2), .val (.int p3), .val (.int p4), .val (.int (2 : Int32)), .val (.int ev), .val (.int tv), .val (.int (0 : Int32)), .val (.int (1 : Int32)), .val (.int (0 : Int32)), .val (.int (0 : Int32)), .val (.int (1 : Int32)), .val (.ref b92_), .val (.int (1 : Int32)), .unset, .unset, .unset, .unset, .unset, .unset, .unset, .unset, .unset, .unset] []))
    exact jp1_ (0 : Int32) (1 : Int32) (0 : Int32) (0 : Int32) (1 : Int32) b92_ (own_up (fun _ => (0 : Int32)) (0 : Int32) (1 : Int32)) _ _ _ _ own_St2 ge_b92_ X93_ e93_ K93_ U93_ N93_
  · show own_Fin pP eE below _ (s₁.setTop (mkF mM 23 #[.val (.int p1), .val (.int p2), .val (.int p3), .val (.int p4), .val (.int (3 : Int32)), .val (.int ev), .val (.int tv), .unset, .unset, .unset, .unset, .unset, .unset, .unset, .unset, .unset, .unset, .unset, .unset, .unset, .unset, .unset, .unset, .unset] []))
    refine own_fin (b := s₁.setTop (mkF mM 127 #[.val (.int p1), .val (.int p2), .val (.int p3), .val (.int p4), .val (.int (3 : Int32)), .val (.int ev), .val (.int tv), .val (.int (1 : Int32)), .val (.int (1 : Int32)), .val (.int (0 : Int32)), .val (.int (0 : Int32)), .val (.int (2 : Int32)), .unset, .unset, .unset, .unset, .unset, .unset, .unset, .unset, .unset, .unset, .unset, .unset] [(.int (2 : Int32))])) (fun tT kK => ?_) ?_
    · show Steps pP.tables eE below (s₁.setTop (mkF mM 23 #[.val (.int p1), .val (.int p2), .val (.int p3), .val (.int p4), .val (.int (3 : Int32)), .val (.int ev), .val (.int tv), .unset, .unset, .unset, .unset, .unset, .unset, .unset, .unset, .unset, .unset, .unset, .unset, .unset, .unset, .unset, .unset, .unset] [])) tT
      refine XS.iload X0.here hx rfl (Jvm.hb hby at_23) rfl ?_
      refine XS.iconst X0.here hx rfl (Jvm.hb hby at_25) ?_
      refine XS.iand X0.here hx rfl (Jvm.hb hby at_26) rfl ?_
      refine XS.ifNo X0.here hx rfl (Jvm.hb hby at_27) rfl ((if0 _ _).trans (feq ((by decide) : ¬ ((1 : Int32) = (0 : Int32)))).1) ?_
      refine XS.iconst X0.here hx rfl (Jvm.hb hby at_30) ?_
      refine XS.goto X0.here hx rfl (pc0 := 31) (pc' := 35) rfl (Jvm.hb hby at_31) (by decide) (by decide) ?_
      show Steps pP.tables eE below (s₁.setTop (mkF mM 35 #[.val (.int p1), .val (.int p2), .val (.int p3), .val (.int p4), .val (.int (3 : Int32)), .val (.int ev), .val (.int tv), .unset, .unset, .unset, .unset, .unset, .unset, .unset, .unset, .unset, .unset, .unset, .unset, .unset, .unset, .unset, .unset, .unset] [(.int (1 : Int32))])) tT
      refine XS.istore X0.here hx rfl (Jvm.hb hby at_35) rfl (l' := #[.val (.int p1), .val (.int p2), .val (.int p3), .val (.int p4), .val (.int (3 : Int32)), .val (.int ev), .val (.int tv), .val (.int (1 : Int32)), .unset, .unset, .unset, .unset, .unset, .unset, .unset, .unset, .unset, .unset, .unset, .unset, .unset, .unset, .unset, .unset]) rfl ?_
      refine XS.iload X0.here hx rfl (Jvm.hb hby at_37) rfl ?_
      refine XS.iconst X0.here hx rfl (Jvm.hb hby at_39) ?_
      refine XS.iand X0.here hx rfl (Jvm.hb hby at_40) rfl ?_
      refine XS.ifNo X0.here hx rfl (Jvm.hb hby at_41) rfl ((if0 _ _).trans (feq ((by decide) : ¬ ((2 : Int32) = (0 : Int32)))).1) ?_
      refine XS.iconst X0.here hx rfl (Jvm.hb hby at_44) ?_
      show Steps pP.tables eE below (s₁.setTop (mkF mM 45 #[.val (.int p1), .val (.int p2), .val (.int p3), .val (.int p4), .val (.int (3 : Int32)), .val (.int ev), .val (.int tv), .val (.int (1 : Int32)), .unset, .unset, .unset, .unset, .unset, .unset, .unset, .unset, .unset, .unset, .unset, .unset, .unset, .unset, .unset, .unset] [(.int (1 : Int32))])) tT
      refine XS.goto X0.here hx rfl (pc0 := 45) (pc' := 49) rfl (Jvm.hb hby at_45) (by decide) (by decide) ?_
      refine XS.istore X0.here hx rfl (Jvm.hb hby at_49) rfl (l' := #[.val (.int p1), .val (.int p2), .val (.int p3), .val (.int p4), .val (.int (3 : Int32)), .val (.int ev), .val (.int tv), .val (.int (1 : Int32)), .val (.int (1 : Int32)), .unset, .unset, .unset, .unset, .unset, .unset, .unset, .unset, .unset, .unset, .unset, .unset, .unset, .unset, .unset]) rfl ?_
      refine XS.iload X0.here hx rfl (Jvm.hb hby at_51) rfl ?_
      refine XS.iconst X0.here hx rfl (Jvm.hb hby at_53) ?_
      refine XS.iand X0.here hx rfl (Jvm.hb hby at_54) rfl ?_
      refine XS.ifYes X0.here hx rfl (pc0 := 55) (pc' := 62) rfl (Jvm.hb hby at_55) rfl ((if0 _ _).trans (teq ((by decide) : (0 : Int32) = (0 : Int32))).1) (by decide) (by decide) ?_
      show Steps pP.tables eE below (s₁.setTop (mkF mM 62 #[.val (.int p1), .val (.int p2), .val (.int p3), .val (.int p4), .val (.int (3 : Int32)), .val (.int ev), .val (.int tv), .val (.int (1 : Int32)), .val (.int (1 : Int32)), .unset, .unset, .unset, .unset, .unset, .unset, .unset, .unset, .unset, .unset, .unset, .unset, .unset, .unset, .unset] [])) tT
      refine XS.iconst X0.here hx rfl (Jvm.hb hby at_62) ?_
      refine XS.istore X0.here hx rfl (Jvm.hb hby at_63) rfl (l' := #[.val (.int p1), .val (.int p2), .val (.int p3), .val (.int p4), .val (.int (3 : Int32)), .val (.int ev), .val (.int tv), .val (.int (1 : Int32)), .val (.int (1 : Int32)), .val (.int (0 : Int32)), .unset, .unset, .unset, .unset, .unset, .unset, .unset, .unset, .unset, .unset, .unset, .unset, .unset, .unset]) rfl ?_
      refine XS.iload X0.here hx rfl (Jvm.hb hby at_65) rfl ?_
      refine XS.bipush X0.here hx rfl (Jvm.hb hby at_67) ?_
      refine XS.iand X0.here hx rfl (Jvm.hb hby at_69) rfl ?_
      refine XS.ifYes X0.here hx rfl (pc0 := 70) (pc' := 77) rfl (Jvm.hb hby at_70) rfl ((if0 _ _).trans (teq ((by decide) : (0 : Int32) = (0 : Int32))).1) (by decide) (by decide) ?_
      show Steps pP.tables eE below (s₁.setTop (mkF mM 77 #[.val (.int p1), .val (.int p2), .val (.int p3), .val (.int p4), .val (.int (3 : Int32)), .val (.int ev), .val (.int tv), .val (.int (1 : Int32)), .val (.int (1 : Int32)), .val (.int (0 : Int32)), .unset, .unset, .unset, .unset, .unset, .unset, .unset, .unset, .unset, .unset, .unset, .unset, .unset, .unset] [])) tT
      refine XS.iconst X0.here hx rfl (Jvm.hb hby at_77) ?_
      refine XS.istore X0.here hx rfl (Jvm.hb hby at_78) rfl (l' := #[.val (.int p1), .val (.int p2), .val (.int p3), .val (.int p4), .val (.int (3 : Int32)), .val (.int ev), .val (.int tv), .val (.int (1 : Int32)), .val (.int (1 : Int32)), .val (.int (0 : Int32)), .val (.int (0 : Int32)), .unset, .unset, .unset, .unset, .unset, .unset, .unset, .unset, .unset, .unset, .unset, .unset, .unset]) rfl ?_
      refine XS.iload X0.here hx rfl (Jvm.hb hby at_80) rfl ?_
      refine XS.ifNo X0.here hx rfl (Jvm.hb hby at_82) rfl ((if0 _ _).trans (feq ((by decide) : ¬ ((1 : Int32) = (0 : Int32)))).1) ?_
      refine XS.iconst X0.here hx rfl (Jvm.hb hby at_85) ?_
      refine XS.goto X0.here hx rfl (pc0 := 86) (pc' := 90) rfl (Jvm.hb hby at_86) (by decide) (by decide) ?_
      show Steps pP.tables eE below (s₁.setTop (mkF mM 90 #[.val (.int p1), .val (.int p2), .val (.int p3), .val (.int p4), .val (.int (3 : Int32)), .val (.int ev), .val (.int tv), .val (.int (1 : Int32)), .val (.int (1 : Int32)), .val (.int (0 : Int32)), .val (.int (0 : Int32)), .unset, .unset, .unset, .unset, .unset, .unset, .unset, .unset, .unset, .unset, .unset, .unset, .unset] [(.int (1 : Int32))])) tT
      refine XS.iload X0.here hx rfl (Jvm.hb hby at_90) rfl ?_
      refine XS.ifNo X0.here hx rfl (Jvm.hb hby at_92) rfl ((if0 _ _).trans (feq ((by decide) : ¬ ((1 : Int32) = (0 : Int32)))).1) ?_
      refine XS.iconst X0.here hx rfl (Jvm.hb hby at_95) ?_
      refine XS.goto X0.here hx rfl (pc0 := 96) (pc' := 100) rfl (Jvm.hb hby at_96) (by decide) (by decide) ?_
      refine XS.iadd X0.here hx rfl (Jvm.hb hby at_100) rfl ?_
      refine XS.iload X0.here hx rfl (Jvm.hb hby at_101) rfl ?_
      show Steps pP.tables eE below (s₁.setTop (mkF mM 103 #[.val (.int p1), .val (.int p2), .val (.int p3), .val (.int p4), .val (.int (3 : Int32)), .val (.int ev), .val (.int tv), .val (.int (1 : Int32)), .val (.int (1 : Int32)), .val (.int (0 : Int32)), .val (.int (0 : Int32)), .unset, .unset, .unset, .unset, .unset, .unset, .unset, .unset, .unset, .unset, .unset, .unset, .unset] [(.int (0 : Int32)), (.int (2 : Int32))])) tT
      refine XS.ifYes X0.here hx rfl (pc0 := 103) (pc' := 110) rfl (Jvm.hb hby at_103) rfl ((if0 _ _).trans (teq ((by decide) : (0 : Int32) = (0 : Int32))).1) (by decide) (by decide) ?_
      refine XS.iconst X0.here hx rfl (Jvm.hb hby at_110) ?_
      refine XS.iadd X0.here hx rfl (Jvm.hb hby at_111) rfl ?_
      refine XS.iload X0.here hx rfl (Jvm.hb hby at_112) rfl ?_
      refine XS.ifYes X0.here hx rfl (pc0 := 114) (pc' := 121) rfl (Jvm.hb hby at_114) rfl ((if0 _ _).trans (teq ((by decide) : (0 : Int32) = (0 : Int32))).1) (by decide) (by decide) ?_
      refine XS.iconst X0.here hx rfl (Jvm.hb hby at_121) ?_
      show Steps pP.tables eE below (s₁.setTop (mkF mM 122 #[.val (.int p1), .val (.int p2), .val (.int p3), .val (.int p4), .val (.int (3 : Int32)), .val (.int ev), .val (.int tv), .val (.int (1 : Int32)), .val (.int (1 : Int32)), .val (.int (0 : Int32)), .val (.int (0 : Int32)), .unset, .unset, .unset, .unset, .unset, .unset, .unset, .unset, .unset, .unset, .unset, .unset, .unset] [(.int (0 : Int32)), (.int (2 : Int32))])) tT
      refine XS.iadd X0.here hx rfl (Jvm.hb hby at_122) rfl ?_
      refine XS.istore X0.here hx rfl (Jvm.hb hby at_123) rfl (l' := #[.val (.int p1), .val (.int p2), .val (.int p3), .val (.int p4), .val (.int (3 : Int32)), .val (.int ev), .val (.int tv), .val (.int (1 : Int32)), .val (.int (1 : Int32)), .val (.int (0 : Int32)), .val (.int (0 : Int32)), .val (.int (2 : Int32)), .unset, .unset, .unset, .unset, .unset, .unset, .unset, .unset, .unset, .unset, .unset, .unset]) rfl ?_
      refine XS.iload X0.here hx rfl (Jvm.hb hby at_125) rfl ?_
      exact kK
    obtain ⟨T94_, h94_, k94_, X94_, e94_, E94_, A94_, st94_⟩ := newP X0 hx hZ (hw _ (List.mem_of_getElem? (i := 1) rfl)) e0 (g := (mkF mM 127 #[.val (.int p1), .val (.int p2), .val (.int p3), .val (.int p4), .val (.int (3 : Int32)), .val (.int ev), .val (.int tv), .val (.int (1 : Int32)), .val (.int (1 : Int32)), .val (.int (0 : Int32)), .val (.int (0 : Int32)), .val (.int (2 : Int32)), .unset, .unset, .unset, .unset, .unset, .unset, .unset, .unset, .unset, .unset, .unset, .unset] [(.int (2 : Int32))])) rfl (Jvm.hb hby at_127) rfl (by decide) (cap := 4) (by decide) (by decide) (by decide) (by decide)
    obtain ⟨b94_, g94_⟩ : ∃ z, z = h0.size := ⟨_, rfl⟩
    rw [← g94_] at A94_ st94_
    have sz_b94_ : h0.size ≤ b94_ := Nat.le_trans K0.1 (Nat.le_of_eq g94_.symm)
    have ge_b94_ : n0 ≤ b94_ := Nat.le_trans Z0 sz_b94_
    have K94_ := K0.ext E94_
    have V94_ : own_T Z h94_ b94_ .int (2 : Int32) (fun _ => (0 : Int32)) := own_T.new A94_ (by decide) rfl
    refine own_fin st94_ ?_
    show own_Fin pP eE below _ (T94_.setTop (mkF mM 129 #[.val (.int p1), .val (.int p2), .val (.int p3), .val (.int p4), .val (.int (3 : Int32)), .val (.int ev), .val (.int tv), .val (.int (1 : Int32)), .val (.int (1 : Int32)), .val (.int (0 : Int32)), .val (.int (0 : Int32)), .val (.int (2 : Int32)), .unset, .unset, .unset, .unset, .unset, .unset, .unset, .unset, .unset, .unset, .unset, .unset] [(.ref b94_)]))
    refine own_fin (b := T94_.setTop (mkF mM 144 #[.val (.int p1), .val (.int p2), .val (.int p3), .val (.int p4), .val (.int (3 : Int32)), .val (.int ev), .val (.int tv), .val (.int (1 : Int32)), .val (.int (1 : Int32)), .val (.int (0 : Int32)), .val (.int (0 : Int32)), .val (.int (2 : Int32)), .val (.ref b94_), .val (.int (0 : Int32)), .unset, .unset, .unset, .unset, .unset, .unset, .unset, .unset, .unset, .unset] [(.int (0 : Int32)), (.int (0 : Int32)), (.ref b94_)])) (fun tT kK => ?_) ?_
    · show Steps pP.tables eE below (T94_.setTop (mkF mM 129 #[.val (.int p1), .val (.int p2), .val (.int p3), .val (.int p4), .val (.int (3 : Int32)), .val (.int ev), .val (.int tv), .val (.int (1 : Int32)), .val (.int (1 : Int32)), .val (.int (0 : Int32)), .val (.int (0 : Int32)), .val (.int (2 : Int32)), .unset, .unset, .unset, .unset, .unset, .unset, .unset, .unset, .unset, .unset, .unset, .unset] [(.ref b94_)])) tT
      refine XS.astore X94_.here hx rfl (Jvm.hb hby at_129) rfl rfl (l' := #[.val (.int p1), .val (.int p2), .val (.int p3), .val (.int p4), .val (.int (3 : Int32)), .val (.int ev), .val (.int tv), .val (.int (1 : Int32)), .val (.int (1 : Int32)), .val (.int (0 : Int32)), .val (.int (0 : Int32)), .val (.int (2 : Int32)), .val (.ref b94_), .unset, .unset, .unset, .unset, .unset, .unset, .unset, .unset, .unset, .unset, .unset]) rfl ?_
      refine XS.iconst X94_.here hx rfl (Jvm.hb hby at_131) ?_
      refine XS.istore X94_.here hx rfl (Jvm.hb hby at_132) rfl (l' := #[.val (.int p1), .val (.int p2), .val (.int p3), .val (.int p4), .val (.int (3 : Int32)), .val (.int ev), .val (.int tv), .val (.int (1 : Int32)), .val (.int (1 : Int32)), .val (.int (0 : Int32)), .val (.int (0 : Int32)), .val (.int (2 : Int32)), .val (.ref b94_), .val (.int (0 : Int32)), .unset, .unset, .unset, .unset, .unset, .unset, .unset, .unset, .unset, .unset]) rfl ?_
      show Steps pP.tables eE below (T94_.setTop (mkF mM 134 #[.val (.int p1), .val (.int p2), .val (.int p3), .val (.int p4), .val (.int (3 : Int32)), .val (.int ev), .val (.int tv), .val (.int (1 : Int32)), .val (.int (1 : Int32)), .val (.int (0 : Int32)), .val (.int (0 : Int32)), .val (.int (2 : Int32)), .val (.ref b94_), .val (.int (0 : Int32)), .unset, .unset, .unset, .unset, .unset, .unset, .unset, .unset, .unset, .unset] [])) tT
      refine XS.iload X94_.here hx rfl (Jvm.hb hby at_134) rfl ?_
      refine XS.ifNo X94_.here hx rfl (Jvm.hb hby at_136) rfl ((if0 _ _).trans (feq ((by decide) : ¬ ((1 : Int32) = (0 : Int32)))).1) ?_
      refine XS.aload X94_.here hx rfl (Jvm.hb hby at_139) rfl rfl ?_
      refine XS.iload X94_.here hx rfl (Jvm.hb hby at_141) rfl ?_
      refine XS.iconst X94_.here hx rfl (Jvm.hb hby at_143) ?_
      exact kK
    obtain ⟨cl95_, Ar95_, Sz95_, Nn95_, Hh95_⟩ := id V94_
    have hin95_ : ¬ ((0 : Int32) < 0 ∨ cl95_.slots.size ≤ ((0 : Int32)).toNatClampNeg) := inb_of Sz95_ ⟨by decide, by decide⟩
    obtain ⟨T95_, h95_, X95_, e95_, W95_, st95_⟩ := stI X94_ hx hZ e94_ Ar95_ (j := (0 : Int32)) hin95_ (g := (mkF mM 144 #[.val (.int p1), .val (.int p2), .val (.int p3), .val (.int p4), .val (.int (3 : Int32)), .val (.int ev), .val (.int tv), .val (.int (1 : Int32)), .val (.int (1 : Int32)), .val (.int (0 : Int32)), .val (.int (0 : Int32)), .val (.int (2 : Int32)), .val (.ref b94_), .val (.int (0 : Int32)), .unset, .unset, .unset, .unset, .unset, .unset, .unset, .unset, .unset, .unset] [(.int (0 : Int32)), (.int (0 : Int32)), (.ref b94_)])) rfl rfl (Jvm.hb hby at_144)
    have U95_ : own_T Z h95_ b94_ .int (2 : Int32) (own_up (fun _ => (0 : Int32)) (0 : Int32) (0 : Int32)) := own_T.set ⟨cl95_, Ar95_, Sz95_, Nn95_, Hh95_⟩ W95_ ⟨by decide, by decide⟩
    have K95_ := K94_.wr W95_ (Or.inr sz_b94_)
    have N95_ := Fr.snoc X95_ N0 ge_b94_
    refine own_fin st95_ ?_
    show own_Fin pP eE below _ (T95_.setTop (mkF mM 145 #[.val (.int p1), .val (.int p2), .val (.int p3), .val (.int p4), .val (.int (3 : Int32)), .val (.int ev), .val (.int tv), .val (.int (1 : Int32)), .val (.int (1 : Int32)), .val (.int (0 : Int32)), .val (.int (0 : Int32)), .val (.int (2 : Int32)), .val (.ref b94_), .val (.int (0 : Int32)), .unset, .unset, .unset, .unset, .unset, .unset, .unset, .unset, .unset, .unset] []))
    refine own_fin (b := T95_.setTop (mkF mM 158 #[.val (.int p1), .val (.int p2), .val (.int p3), .val (.int p4), .val (.int (3 : Int32)), .val (.int ev), .val (.int tv), .val (.int (1 : Int32)), .val (.int (1 : Int32)), .val (.int (0 : Int32)), .val (.int (0 : Int32)), .val (.int (2 : Int32)), .val (.ref b94_), .val (.int (1 : Int32)), .unset, .unset, .unset, .unset, .unset, .unset, .unset, .unset, .unset, .unset] [(.int (1 : Int32)), (.int (1 : Int32)), (.ref b94_)])) (fun tT kK => ?_) ?_
    · show Steps pP.tables eE below (T95_.setTop (mkF mM 145 #[.val (.int p1), .val (.int p2), .val (.int p3), .val (.int p4), .val (.int (3 : Int32)), .val (.int ev), .val (.int tv), .val (.int (1 : Int32)), .val (.int (1 : Int32)), .val (.int (0 : Int32)), .val (.int (0 : Int32)), .val (.int (2 : Int32)), .val (.ref b94_), .val (.int (0 : Int32)), .unset, .unset, .unset, .unset, .unset, .unset, .unset, .unset, .unset, .unset] [])) tT
      refine XS.iinc X95_.here hx rfl (Jvm.hb hby at_145) rfl (l' := #[.val (.int p1), .val (.int p2), .val (.int p3), .val (.int p4), .val (.int (3 : Int32)), .val (.int ev), .val (.int tv), .val (.int (1 : Int32)), .val (.int (1 : Int32)), .val (.int (0 : Int32)), .val (.int (0 : Int32)), .val (.int (2 : Int32)), .val (.ref b94_), .val (.int (1 : Int32)), .unset, .unset, .unset, .unset, .unset, .unset, .unset, .unset, .unset, .unset]) rfl ?_
      show Steps pP.tables eE below (T95_.setTop (mkF mM 148 #[.val (.int p1), .val (.int p2), .val (.int p3), .val (.int p4), .val (.int (3 : Int32)), .val (.int ev), .val (.int tv), .val (.int (1 : Int32)), .val (.int (1 : Int32)), .val (.int (0 : Int32)), .val (.int (0 : Int32)), .val (.int (2 : Int32)), .val (.ref b94_), .val (.int (1 : Int32)), .unset, .unset, .unset, .unset, .unset, .unset, .unset, .unset, .unset, .unset] [])) tT
      refine XS.iload X95_.here hx rfl (Jvm.hb hby at_148) rfl ?_
      refine XS.ifNo X95_.here hx rfl (Jvm.hb hby at_150) rfl ((if0 _ _).trans (feq ((by decide) : ¬ ((1 : Int32) = (0 : Int32)))).1) ?_
      refine XS.aload X95_.here hx rfl (Jvm.hb hby at_153) rfl rfl ?_
      refine XS.iload X95_.here hx rfl (Jvm.hb hby at_155) rfl ?_
      refine XS.iconst X95_.here hx rfl (Jvm.hb hby at_157) ?_
      exact kK
    obtain ⟨cl96_, Ar96_, Sz96_, Nn96_, Hh96_⟩ := id U95_
    have hin96_ : ¬ ((1 : Int32) < 0 ∨ cl96_.slots.size ≤ ((1 : Int32)).toNatClampNeg) := inb_of Sz96_ ⟨by decide, by decide⟩
    obtain ⟨T96_, h96_, X96_, e96_, W96_, st96_⟩ := stI X95_ hx hZ e95_ Ar96_ (j := (1 : Int32)) hin96_ (g := (mkF mM 158 #[.val (.int p1), .val (.int p2), .val (.int p3), .val (.int p4), .val (.int (3 : Int32)), .val (.int ev), .val (.int tv), .val (.int (1 : Int32)), .val (.int (1 : Int32)), .val (.int (0 : Int32)), .val (.int (0 : Int32)), .val (.int (2 : Int32)), .val (.ref b94_), .val (.int (1 : Int32)), .unset, .unset, .unset, .unset, .unset, .unset, .unset, .unset, .unset, .unset] [(.int (1 : Int32)), (.int (1 : Int32)), (.ref b94_)])) rfl rfl (Jvm.hb hby at_158)
    have U96_ : own_T Z h96_ b94_ .int (2 : Int32) (own_up (own_up (fun _ => (0 : Int32)) (0 : Int32) (0 : Int32)) (1 : Int32) (1 : Int32)) := own_T.set ⟨cl96_, Ar96_, Sz96_, Nn96_, Hh96_⟩ W96_ ⟨by decide, by decide⟩
    have K96_ := K95_.wr W96_ (Or.inr sz_b94_)
    have N96_ := Fr.snoc X96_ N95_ ge_b94_
    refine own_fin st96_ ?_
    show own_Fin pP eE below _ (T96_.setTop (mkF mM 159 #[.val (.int p1), .val (.int p2), .val (.int p3), .val (.int p4), .val (.int (3 : Int32)), .val (.int ev), .val (.int tv), .val (.int (1 : Int32)), .val (.int (1 : Int32)), .val (.int (0 : Int32)), .val (.int (0 : Int32)), .val (.int (2 : Int32)), .val (.ref b94_), .val (.int (1 : Int32)), .unset, .unset, .unset, .unset, .unset, .unset, .unset, .unset, .unset, .unset] []))
    refine own_fin (b := T96_.setTop (mkF mM 190 #[.val (.int p1), .val (.int p2), .val (.int p3), .val (.int p4), .val (.int (3 : Int32)), .val (.int ev), .val (.int tv), .val (.int (1 : Int32)), .val (.int (1 : Int32)), .val (.int (0 : Int32)), .val (.int (0 : Int32)), .val (.int (2 : Int32)), .val (.ref b94_), .val (.int (2 : Int32)), .unset, .unset, .unset, .unset, .unset, .unset, .unset, .unset, .unset, .unset] [])) (fun tT kK => ?_) ?_
    · show Steps pP.tables eE below (T96_.setTop (mkF mM 159 #[.val (.int p1), .val (.int p2), .val (.int p3), .val (.int p4), .val (.int (3 : Int32)), .val (.int ev), .val (.int tv), .val (.int (1 : Int32)), .val (.int (1 : Int32)), .val (.int (0 : Int32)), .val (.int (0 : Int32)), .val (.int (2 : Int32)), .val (.ref b94_), .val (.int (1 : Int32)), .unset, .unset, .unset, .unset, .unset, .unset, .unset, .unset, .unset, .unset] [])) tT
      refine XS.iinc X96_.here hx rfl (Jvm.hb hby at_159) rfl (l' := #[.val (.int p1), .val (.int p2), .val (.int p3), .val (.int p4), .val (.int (3 : Int32)), .val (.int ev), .val (.int tv), .val (.int (1 : Int32)), .val (.int (1 : Int32)), .val (.int (0 : Int32)), .val (.int (0 : Int32)), .val (.int (2 : Int32)), .val (.ref b94_), .val (.int (2 : Int32)), .unset, .unset, .unset, .unset, .unset, .unset, .unset, .unset, .unset, .unset]) rfl ?_
      show Steps pP.tables eE below (T96_.setTop (mkF mM 162 #[.val (.int p1), .val (.int p2), .val (.int p3), .val (.int p4), .val (.int (3 : Int32)), .val (.int ev), .val (.int tv), .val (.int (1 : Int32)), .val (.int (1 : Int32)), .val (.int (0 : Int32)), .val (.int (0 : Int32)), .val (.int (2 : Int32)), .val (.ref b94_), .val (.int (2 : Int32)), .unset, .unset, .unset, .unset, .unset, .unset, .unset, .unset, .unset, .unset] [])) tT
      refine XS.iload X96_.here hx rfl (Jvm.hb hby at_162) rfl ?_
      refine XS.ifYes X96_.here hx rfl (pc0 := 164) (pc' := 176) rfl (Jvm.hb hby at_164) rfl ((if0 _ _).trans (teq ((by decide) : (0 : Int32) = (0 : Int32))).1) (by decide) (by decide) ?_
      refine XS.iload X96_.here hx rfl (Jvm.hb hby at_176) rfl ?_
      refine XS.ifYes X96_.here hx rfl (pc0 := 178) (pc' := 190) rfl (Jvm.hb hby at_178) rfl ((if0 _ _).trans (teq ((by decide) : (0 : Int32) = (0 : Int32))).1) (by decide) (by decide) ?_
      exact kK
    show own_Fin pP eE below _ (T96_.setTop (mkF mM 190 #[.val (.int p1), .val (.int p2), .val (.int p3), .val (.int p4), .val (.int (3 : Int32)), .val (.int ev), .val (.int tv), .val (.int (1 : Int32)), .val (.int (1 : Int32)), .val (.int (0 : Int32)), .val (.int (0 : Int32)), .val (.int (2 : Int32)), .val (.ref b94_), .val (.int (2 : Int32)), .unset, .unset, .unset, .unset, .unset, .unset, .unset, .unset, .unset, .unset] []))
    exact jp1_ (1 : Int32) (1 : Int32) (0 : Int32) (0 : Int32) (2 : Int32) b94_ (own_up (own_up (fun _ => (0 : Int32)) (0 : Int32) (0 : Int32)) (1 : Int32) (1 : Int32)) _ _ _ _ own_St3 ge_b94_ X96_ e96_ K96_ U96_ N96_
  · show own_Fin pP eE below _ (s₁.setTop (mkF mM 23 #[.val (.int p1), .val (.int p2), .val (.int p3), .val (.int p4), .val (.int (4 : Int32)), .val (.int ev), .val (.int tv), .unset, .unset, .unset, .unset, .unset, .unset, .unset, .unset, .unset, .unset, .unset, .unset, .unset, .unset, .unset, .unset, .unset] []))
    refine own_fin (b := s₁.setTop (mkF mM 127 #[.val (.int p1), .val (.int p2), .val (.int p3), .val (.int p4), .val (.int (4 : Int32)), .val (.int ev), .val (.int tv), .val (.int (0 : Int32)), .val (.int (0 : Int32)), .val (.int (1 : Int32)), .val (.int (0 : Int32)), .val (.int (1 : Int32)), .unset, .unset, .unset, .unset, .unset, .unset, .unset, .unset, .unset, .unset, .unset, .unset] [(.int (1 : Int32))])) (fun tT kK => ?_) ?_
    · show Steps pP.tables eE below (s₁.setTop (mkF mM 23 #[.val (.int p1), .val (.int p2), .val (.int p3), .val (.int p4), .val (.int (4 : Int32)), .val (.int ev), .val (.int tv), .unset, .unset, .unset, .unset, .unset, .unset, .unset, .unset, .unset, .unset, .unset, .unset, .unset, .unset, .unset, .unset, .unset] [])) tT
      refine XS.iload X0.here hx rfl (Jvm.hb hby at_23) rfl ?_
      refine XS.iconst X0.here hx rfl (Jvm.hb hby at_25) ?_
      refine XS.iand X0.here hx rfl (Jvm.hb hby at_26) rfl ?_
      refine XS.ifYes X0.here hx rfl (pc0 := 27) (pc' := 34) rfl (Jvm.hb hby at_27) rfl ((if0 _ _).trans (teq ((by decide) : (0 : Int32) = (0 : Int32))).1) (by decide) (by decide) ?_
      refine XS.iconst X0.here hx rfl (Jvm.hb hby at_34) ?_
      refine XS.istore X0.here hx rfl (Jvm.hb hby at_35) rfl (l' := #[.val (.int p1), .val (.int p2), .val (.int p3), .val (.int p4), .val (.int (4 : Int32)), .val (.int ev), .val (.int tv), .val (.int (0 : Int32)), .unset, .unset, .unset, .unset, .unset, .unset, .unset, .unset, .unset, .unset, .unset, .unset, .unset, .unset, .unset, .unset]) rfl ?_
      show Steps pP.tables eE below (s₁.setTop (mkF mM 37 #[.val (.int p1), .val (.int p2), .val (.int p3), .val (.int p4), .val (.int (4 : Int32)), .val (.int ev), .val (.int tv), .val (.int (0 : Int32)), .unset, .unset, .unset, .unset, .unset, .unset, .unset, .unset, .unset, .unset, .unset, .unset, .unset, .unset, .unset, .unset] [])) tT
      refine XS.iload X0.here hx rfl (Jvm.hb hby at_37) rfl ?_
      refine XS.iconst X0.here hx rfl (Jvm.hb hby at_39) ?_
      refine XS.iand X0.here hx rfl (Jvm.hb hby at_40) rfl ?_
      refine XS.ifYes X0.here hx rfl (pc0 := 41) (pc' := 48) rfl (Jvm.hb hby at_41) rfl ((if0 _ _).trans (teq ((by decide) : (0 : Int32) = (0 : Int32))).1) (by decide) (by decide) ?_
      refine XS.iconst X0.here hx rfl (Jvm.hb hby at_48) ?_
      refine XS.istore X0.here hx rfl (Jvm.hb hby at_49) rfl (l' := #[.val (.int p1), .val (.int p2), .val (.int p3), .val (.int p4), .val (.int (4 : Int32)), .val (.int ev), .val (.int tv), .val (.int (0 : Int32)), .val (.int (0 : Int32)), .unset, .unset, .unset, .unset, .unset, .unset, .unset, .unset, .unset, .unset, .unset, .unset, .unset, .unset, .unset]) rfl ?_
      show Steps pP.tables eE below (s₁.setTop (mkF mM 51 #[.val (.int p1), .val (.int p2), .val (.int p3), .val (.int p4), .val (.int (4 : Int32)), .val (.int ev), .val (.int tv), .val (.int (0 : Int32)), .val (.int (0 : Int32)), .unset, .unset, .unset, .unset, .unset, .unset, .unset, .unset, .unset, .unset, .unset, .unset, .unset, .unset, .unset] [])) tT
      refine XS.iload X0.here hx rfl (Jvm.hb hby at_51) rfl ?_
      refine XS.iconst X0.here hx rfl (Jvm.hb hby at_53) ?_
      refine XS.iand X0.here hx rfl (Jvm.hb hby at_54) rfl ?_
      refine XS.ifNo X0.here hx rfl (Jvm.hb hby at_55) rfl ((if0 _ _).trans (feq ((by decide) : ¬ ((4 : Int32) = (0 : Int32)))).1) ?_
      refine XS.iconst X0.here hx rfl (Jvm.hb hby at_58) ?_
      refine XS.goto X0.here hx rfl (pc0 := 59) (pc' := 63) rfl (Jvm.hb hby at_59) (by decide) (by decide) ?_
      show Steps pP.tables eE below (s₁.setTop (mkF mM 63 #[.val (.int p1), .val (.int p2), .val (.int p3), .val (.int p4), .val (.int (4 : Int32)), .val (.int ev), .val (.int tv), .val (.int (0 : Int32)), .val (.int (0 : Int32)), .unset, .unset, .unset, .unset, .unset, .unset, .unset, .unset, .unset, .unset, .unset, .unset, .unset, .unset, .unset] [(.int (1 : Int32))])) tT
      refine XS.istore X0.here hx rfl (Jvm.hb hby at_63) rfl (l' := #[.val (.int p1), .val (.int p2), .val (.int p3), .val (.int p4), .val (.int (4 : Int32)), .val (.int ev), .val (.int tv), .val (.int (0 : Int32)), .val (.int (0 : Int32)), .val (.int (1 : Int32)), .unset, .unset, .unset, .unset, .unset, .unset, .unset, .unset, .unset, .unset, .unset, .unset, .unset, .unset]) rfl ?_
      refine XS.iload X0.here hx rfl (Jvm.hb hby at_65) rfl ?_
      refine XS.bipush X0.here hx rfl (Jvm.hb hby at_67) ?_
      refine XS.iand X0.here hx rfl (Jvm.hb hby at_69) rfl ?_
      refine XS.ifYes X0.here hx rfl (pc0 := 70) (pc' := 77) rfl (Jvm.hb hby at_70) rfl ((if0 _ _).trans (teq ((by decide) : (0 : Int32) = (0 : Int32))).1) (by decide) (by decide) ?_
      refine XS.iconst X0.here hx rfl (Jvm.hb hby at_77) ?_
      show Steps pP.tables eE below (s₁.setTop (mkF mM 78 #[.val (.int p1), .val (.int p2), .val (.int p3), .val (.int p4), .val (.int (4 : Int32)), .val (.int ev), .val (.int tv), .val (.int (0 : Int32)), .val (.int (0 : Int32)), .val (.int (1 : Int32)), .unset, .unset, .unset, .unset, .unset, .unset, .unset, .unset, .unset, .unset, .unset, .unset, .unset, .unset] [(.int (0 : Int32))])) tT
      refine XS.istore X0.here hx rfl (Jvm.hb hby at_78) rfl (l' := #[.val (.int p1), .val (.int p2), .val (.int p3), .val (.int p4), .val (.int (4 : Int32)), .val (.int ev), .val (.int tv), .val (.int (0 : Int32)), .val (.int (0 : Int32)), .val (.int (1 : Int32)), .val (.int (0 : Int32)), .unset, .unset, .unset, .unset, .unset, .unset, .unset, .unset, .unset, .unset, .unset, .unset, .unset]) rfl ?_
      refine XS.iload X0.here hx rfl (Jvm.hb hby at_80) rfl ?_
      refine XS.ifYes X0.here hx rfl (pc0 := 82) (pc' := 89) rfl (Jvm.hb hby at_82) rfl ((if0 _ _).trans (teq ((by decide) : (0 : Int32) = (0 : Int32))).1) (by decide) (by decide) ?_
      refine XS.iconst X0.here hx rfl (Jvm.hb hby at_89) ?_
      refine XS.iload X0.here hx rfl (Jvm.hb hby at_90) rfl ?_
      refine XS.ifYes X0.here hx rfl (pc0 := 92) (pc' := 99) rfl (Jvm.hb hby at_92) rfl ((if0 _ _).trans (teq ((by decide) : (0 : Int32) = (0 : Int32))).1) (by decide) (by decide) ?_
      show Steps pP.tables eE below (s₁.setTop (mkF mM 99 #[.val (.int p1), .val (.int p2), .val (.int p3), .val (.int p4), .val (.int (4 : Int32)), .val (.int ev), .val (.int tv), .val (.int (0 : Int32)), .val (.int (0 : Int32)), .val (.int (1 : Int32)), .val (.int (0 : Int32)), .unset, .unset, .unset, .unset, .unset, .unset, .unset, .unset, .unset, .unset, .unset, .unset, .unset] [(.int (0 : Int32))])) tT
      refine XS.iconst X0.here hx rfl (Jvm.hb hby at_99) ?_
      refine XS.iadd X0.here hx rfl (Jvm.hb hby at_100) rfl ?_
      refine XS.iload X0.here hx rfl (Jvm.hb hby at_101) rfl ?_
      refine XS.ifNo X0.here hx rfl (Jvm.hb hby at_103) rfl ((if0 _ _).trans (feq ((by decide) : ¬ ((1 : Int32) = (0 : Int32)))).1) ?_
      refine XS.iconst X0.here hx rfl (Jvm.hb hby at_106) ?_
      refine XS.goto X0.here hx rfl (pc0 := 107) (pc' := 111) rfl (Jvm.hb hby at_107) (by decide) (by decide) ?_
      show Steps pP.tables eE below (s₁.setTop (mkF mM 111 #[.val (.int p1), .val (.int p2), .val (.int p3), .val (.int p4), .val (.int (4 : Int32)), .val (.int ev), .val (.int tv), .val (.int (0 : Int32)), .val (.int (0 : Int32)), .val (.int (1 : Int32)), .val (.int (0 : Int32)), .unset, .unset, .unset, .unset, .unset, .unset, .unset, .unset, .unset, .unset, .unset, .unset, .unset] [(.int (1 : Int32)), (.int (0 : Int32))])) tT
      refine XS.iadd X0.here hx rfl (Jvm.hb hby at_111) rfl ?_
      refine XS.iload X0.here hx rfl (Jvm.hb hby at_112) rfl ?_
      refine XS.ifYes X0.here hx rfl (pc0 := 114) (pc' := 121) rfl (Jvm.hb hby at_114) rfl ((if0 _ _).trans (teq ((by decide) : (0 : Int32) = (0 : Int32))).1) (by decide) (by decide) ?_
      refine XS.iconst X0.here hx rfl (Jvm.hb hby at_121) ?_
      refine XS.iadd X0.here hx rfl (Jvm.hb hby at_122) rfl ?_
      refine XS.istore X0.here hx rfl (Jvm.hb hby at_123) rfl (l' := #[.val (.int p1), .val (.int p2), .val (.int p3), .val (.int p4), .val (.int (4 : Int32)), .val (.int ev), .val (.int tv), .val (.int (0 : Int32)), .val (.int (0 : Int32)), .val (.int (1 : Int32)), .val (.int (0 : Int32)), .val (.int (1 : Int32)), .unset, .unset, .unset, .unset, .unset, .unset, .unset, .unset, .unset, .unset, .unset, .unset]) rfl ?_
      show Steps pP.tables eE below (s₁.setTop (mkF mM 125 #[.val (.int p1), .val (.int p2), .val (.int p3), .val (.int p4), .val (.int (4 : Int32)), .val (.int ev), .val (.int tv), .val (.int (0 : Int32)), .val (.int (0 : Int32)), .val (.int (1 : Int32)), .val (.int (0 : Int32)), .val (.int (1 : Int32)), .unset, .unset, .unset, .unset, .unset, .unset, .unset, .unset, .unset, .unset, .unset, .unset] [])) tT
      refine XS.iload X0.here hx rfl (Jvm.hb hby at_125) rfl ?_
      exact kK
    obtain ⟨T97_, h97_, k97_, X97_, e97_, E97_, A97_, st97_⟩ := newP X0 hx hZ (hw _ (List.mem_of_getElem? (i := 1) rfl)) e0 (g := (mkF mM 127 #[.val (.int p1), .val (.int p2), .val (.int p3), .val (.int p4), .val (.int (4 : Int32)), .val (.int ev), .val (.int tv), .val (.int (0 : Int32)), .val (.int (0 : Int32)), .val (.int (1 : Int32)), .val (.int (0 : Int32)), .val (.int (1 : Int32)), .unset, .unset, .unset, .unset, .unset, .unset, .unset, .unset, .unset, .unset, .unset, .unset] [(.int (1 : Int32))])) rfl (Jvm.hb hby at_127) rfl (by decide) (cap := 4) (by decide) (by decide) (by decide) (by decide)
    obtain ⟨b97_, g97_⟩ : ∃ z, z = h0.size := ⟨_, rfl⟩
    rw [← g97_] at A97_ st97_
    have sz_b97_ : h0.size ≤ b97_ := Nat.le_trans K0.1 (Nat.le_of_eq g97_.symm)
    have ge_b97_ : n0 ≤ b97_ := Nat.le_trans Z0 sz_b97_
    have K97_ := K0.ext E97_
    have V97_ : own_T Z h97_ b97_ .int (1 : Int32) (fun _ => (0 : Int32)) := own_T.new A97_ (by decide) rfl
    refine own_fin st97_ ?_
    show own_Fin pP eE below _ (T97_.setTop (mkF mM 129 #[.val (.int p1), .val (.int p2), .val (.int p3), .val (.int p4), .val (.int (4 : Int32)), .val (.int ev), .val (.int tv), .val (.int (0 : Int32)), .val (.int (0 : Int32)), .val (.int (1 : Int32)), .val (.int (0 : Int32)), .val (.int (1 : Int32)), .unset, .unset, .unset, .unset, .unset, .unset, .unset, .unset, .unset, .unset, .unset, .unset] [(.ref b97_)]))
    refine own_fin (b := T97_.setTop (mkF mM 172 #[.val (.int p1), .val (.int p2), .val (.int p3), .val (.int p4), .val (.int (4 : Int32)), .val (.int ev), .val (.int tv), .val (.int (0 : Int32)), .val (.int (0 : Int32)), .val (.int (1 : Int32)), .val (.int (0 : Int32)), .val (.int (1 : Int32)), .val (.ref b97_), .val (.int (0 : Int32)), .unset, .unset, .unset, .unset, .unset, .unset, .unset, .unset, .unset, .unset] [(.int (2 : Int32)), (.int (0 : Int32)), (.ref b97_)])) (fun tT kK => ?_) ?_
    · show Steps pP.tables eE below (T97_.setTop (mkF mM 129 #[.val (.int p1), .val (.int p2), .val (.int p3), .val (.int p4), .val (.int (4 : Int32)), .val (.int ev), .val (.int tv), .val (.int (0 : Int32)), .val (.int (0 : Int32)), .val (.int (1 : Int32)), .val (.int (0 : Int32)), .val (.int (1 : Int32)), .unset, .unset, .unset, .unset, .unset, .unset, .unset, .unset, .unset, .unset, .unset, .unset] [(.ref b97_)])) tT
      refine XS.astore X97_.here hx rfl (Jvm.hb hby at_129) rfl rfl (l' := #[.val (.int p1), .val (.int p2), .val (.int p3), .val (.int p4), .val (.int (4 : Int32)), .val (.int ev), .val (.int tv), .val (.int (0 : Int32)), .val (.int (0 : Int32)), .val (.int (1 : Int32)), .val (.int (0 : Int32)), .val (.int (1 : Int32)), .val (.ref b97_), .unset, .unset, .unset, .unset, .unset, .unset, .unset, .unset, .unset, .unset, .unset]) rfl ?_
      refine XS.iconst X97_.here hx rfl (Jvm.hb hby at_131) ?_
      refine XS.istore X97_.here hx rfl (Jvm.hb hby at_132) rfl (l' := #[.val (.int p1), .val (.int p2), .val (.int p3), .val (.int p4), .val (.int (4 : Int32)), .val (.int ev), .val (.int tv), .val (.int (0 : Int32)), .val (.int (0 : Int32)), .val (.int (1 : Int32)), .val (.int (0 : Int32)), .val (.int (1 : Int32)), .val (.ref b97_), .val (.int (0 : Int32)), .unset, .unset, .unset, .unset, .unset, .unset, .unset, .unset, .unset, .unset]) rfl ?_
      refine XS.iload X97_.here hx rfl (Jvm.hb hby at_134) rfl ?_
      refine XS.ifYes X97_.here hx rfl (pc0 := 136) (pc' := 148) rfl (Jvm.hb hby at_136) rfl ((if0 _ _).trans (teq ((by decide) : (0 : Int32) = (0 : Int32))).1) (by decide) (by decide) ?_
      show Steps pP.tables eE below (T97_.setTop (mkF mM 148 #[.val (.int p1), .val (.int p2), .val (.int p3), .val (.int p4), .val (.int (4 : Int32)), .val (.int ev), .val (.int tv), .val (.int (0 : Int32)), .val (.int (0 : Int32)), .val (.int (1 : Int32)), .val (.int (0 : Int32)), .val (.int (1 : Int32)), .val (.ref b97_), .val (.int (0 : Int32)), .unset, .unset, .unset, .unset, .unset, .unset, .unset, .unset, .unset, .unset] [])) tT
      refine XS.iload X97_.here hx rfl (Jvm.hb hby at_148) rfl ?_
      refine XS.ifYes X97_.here hx rfl (pc0 := 150) (pc' := 162) rfl (Jvm.hb hby at_150) rfl ((if0 _ _).trans (teq ((by decide) : (0 : Int32) = (0 : Int32))).1) (by decide) (by decide) ?_
      refine XS.iload X97_.here hx rfl (Jvm.hb hby at_162) rfl ?_
      refine XS.ifNo X97_.here hx rfl (Jvm.hb hby at_164) rfl ((if0 _ _).trans (feq ((by decide) : ¬ ((1 : Int32) = (0 : Int32)))).1) ?_
      refine XS.aload X97_.here hx rfl (Jvm.hb hby at_167) rfl rfl ?_
      refine XS.iload X97_.here hx rfl (Jvm.hb hby at_169) rfl ?_
      show Steps pP.tables eE below (T97_.setTop (mkF mM 171 #[.val (.int p1), .val (.int p2), .val (.int p3), .val (.int p4), .val (.int (4 : Int32)), .val (.int ev), .val (.int tv), .val (.int (0 : Int32)), .val (.int (0 : Int32)), .val (.int (1 : Int32)), .val (.int (0 : Int32)), .val (.int (1 : Int32)), .val (.ref b97_), .val (.int (0 : Int32)), .unset, .unset, .unset, .unset, .unset, .unset, .unset, .unset, .unset, .unset] [(.int (0 : Int32)), (.ref b97_)])) tT
      refine XS.iconst X97_.here hx rfl (Jvm.hb hby at_171) ?_
      exact kK
    obtain ⟨cl98_, Ar98_, Sz98_, Nn98_, Hh98_⟩ := id V97_
    have hin98_ : ¬ ((0 : Int32) < 0 ∨ cl98_.slots.size ≤ ((0 : Int32)).toNatClampNeg) := inb_of Sz98_ ⟨by decide, by decide⟩
    obtain ⟨T98_, h98_, X98_, e98_, W98_, st98_⟩ := stI X97_ hx hZ e97_ Ar98_ (j := (0 : Int32)) hin98_ (g := (mkF mM 172 #[.val (.int p1), .val (.int p2), .val (.int p3), .val (.int p4), .val (.int (4 : Int32)), .val (.int ev), .val (.int tv), .val (.int (0 : Int32)), .val (.int (0 : Int32)), .val (.int (1 : Int32)), .val (.int (0 : Int32)), .val (.int (1 : Int32)), .val (.ref b97_), .val (.int (0 : Int32)), .unset, .unset, .unset, .unset, .unset, .unset, .unset, .unset, .unset, .unset] [(.int (2 : Int32)), (.int (0 : Int32)), (.ref b97_)])) rfl rfl (Jvm.hb hby at_172)
    have U98_ : own_T Z h98_ b97_ .int (1 : Int32) (own_up (fun _ => (0 : Int32)) (0 : Int32) (2 : Int32)) := own_T.set ⟨cl98_, Ar98_, Sz98_, Nn98_, Hh98_⟩ W98_ ⟨by decide, by decide⟩
    have K98_ := K97_.wr W98_ (Or.inr sz_b97_)
    have N98_ := Fr.snoc X98_ N0 ge_b97_
    refine own_fin st98_ ?_
    show own_Fin pP eE below _ (T98_.setTop (mkF mM 173 #[.val (.int p1), .val (.int p2), .val (.int p3), .val (.int p4), .val (.int (4 : Int32)), .val (.int ev), .val (.int tv), .val (.int (0 : Int32)), .val (.int (0 : Int32)), .val (.int (1 : Int32)), .val (.int (0 : Int32)), .val (.int (1 : Int32)), .val (.ref b97_), .val (.int (0 : Int32)), .unset, .unset, .unset, .unset, .unset, .unset, .unset, .unset, .unset, .unset] []))
    refine own_fin (b := T98_.setTop (mkF mM 190 #[.val (.int p1), .val (.int p2), .val (.int p3), .val (.int p4), .val (.int (4 : Int32)), .val (.int ev), .val (.int tv), .val (.int (0 : Int32)), .val (.int (0 : Int32)), .val (.int (1 : Int32)), .val (.int (0 : Int32)), .val (.int (1 : Int32)), .val (.ref b97_), .val (.int (1 : Int32)), .unset, .unset, .unset, .unset, .unset, .unset, .unset, .unset, .unset, .unset] [])) (fun tT kK => ?_) ?_
    · show Steps pP.tables eE below (T98_.setTop (mkF mM 173 #[.val (.int p1), .val (.int p2), .val (.int p3), .val (.int p4), .val (.int (4 : Int32)), .val (.int ev), .val (.int tv), .val (.int (0 : Int32)), .val (.int (0 : Int32)), .val (.int (1 : Int32)), .val (.int (0 : Int32)), .val (.int (1 : Int32)), .val (.ref b97_), .val (.int (0 : Int32)), .unset, .unset, .unset, .unset, .unset, .unset, .unset, .unset, .unset, .unset] [])) tT
      refine XS.iinc X98_.here hx rfl (Jvm.hb hby at_173) rfl (l' := #[.val (.int p1), .val (.int p2), .val (.int p3), .val (.int p4), .val (.int (4 : Int32)), .val (.int ev), .val (.int tv), .val (.int (0 : Int32)), .val (.int (0 : Int32)), .val (.int (1 : Int32)), .val (.int (0 : Int32)), .val (.int (1 : Int32)), .val (.ref b97_), .val (.int (1 : Int32)), .unset, .unset, .unset, .unset, .unset, .unset, .unset, .unset, .unset, .unset]) rfl ?_
      refine XS.iload X98_.here hx rfl (Jvm.hb hby at_176) rfl ?_
      refine XS.ifYes X98_.here hx rfl (pc0 := 178) (pc' := 190) rfl (Jvm.hb hby at_178) rfl ((if0 _ _).trans (teq ((by decide) : (0 : Int32) = (0 : Int32))).1) (by decide) (by decide) ?_
      exact kK
    show own_Fin pP eE below _ (T98_.setTop (mkF mM 190 #[.val (.int p1), .val (.int p2), .val (.int p3), .val (.int p4), .val (.int (4 : Int32)), .val (.int ev), .val (.int tv), .val (.int (0 : Int32)), .val (.int (0 : Int32)), .val (.int (1 : Int32)), .val (.int (0 : Int32)), .val (.int (1 : Int32)), .val (.ref b97_), .val (.int (1 : Int32)), .unset, .unset, .unset, .unset, .unset, .unset, .unset, .unset, .unset, .unset] []))
    exact jp1_ (0 : Int32) (0 : Int32) (1 : Int32) (0 : Int32) (1 : Int32) b97_ (own_up (fun _ => (0 : Int32)) (0 : Int32) (2 : Int32)) _ _ _ _ own_St4 ge_b97_ X98_ e98_ K98_ U98_ N98_
  · show own_Fin pP eE below _ (s₁.setTop (mkF mM 23 #[.val (.int p1), .val (.int p2), .val (.int p3), .val (.int p4), .val (.int (5 : Int32)), .val (.int ev), .val (.int tv), .unset, .unset, .unset, .unset, .unset, .unset, .unset, .unset, .unset, .unset, .unset, .unset, .unset, .unset, .unset, .unset, .unset] []))
    refine own_fin (b := s₁.setTop (mkF mM 127 #[.val (.int p1), .val (.int p2), .val (.int p3), .val (.int p4), .val (.int (5 : Int32)), .val (.int ev), .val (.int tv), .val (.int (1 : Int32)), .val (.int (0 : Int32)), .val (.int (1 : Int32)), .val (.int (0 : Int32)), .val (.int (2 : Int32)), .unset, .unset, .unset, .unset, .unset, .unset, .unset, .unset, .unset, .unset, .unset, .unset] [(.int (2 : Int32))])) (fun tT kK => ?_) ?_
    · show Steps pP.tables eE below (s₁.setTop (mkF mM 23 #[.val (.int p1), .val (.int p2), .val (.int p3), .val (.int p4), .val (.int (5 : Int32)), .val (.int ev), .val (.int tv), .unset, .unset, .unset, .unset, .unset, .unset, .unset, .unset, .unset, .unset, .unset, .unset, .unset, .unset, .unset, .unset, .unset] [])) tT
      refine XS.iload X0.here hx rfl (Jvm.hb hby at_23) rfl ?_
      refine XS.iconst X0.here hx rfl (Jvm.hb hby at_25) ?_
      refine XS.iand X0.here hx rfl (Jvm.hb hby at_26) rfl ?_
      refine XS.ifNo X0.here hx rfl (Jvm.hb hby at_27) rfl ((if0 _ _).trans (feq ((by decide) : ¬ ((1 : Int32) = (0 : Int32)))).1) ?_
      refine XS.iconst X0.here hx rfl (Jvm.hb hby at_30) ?_
      refine XS.goto X0.here hx rfl (pc0 := 31) (pc' := 35) rfl (Jvm.hb hby at_31) (by decide) (by decide) ?_
      show Steps pP.tables eE below (s₁.setTop (mkF mM 35 #[.val (.int p1), .val (.int p2), .val (.int p3), .val (.int p4), .val (.int (5 : Int32)), .val (.int ev), .val (.int tv), .unset, .unset, .unset, .unset, .unset, .unset, .unset, .unset, .unset, .unset, .unset, .unset, .unset, .unset, .unset, .unset, .unset] [(.int (1 : Int32))])) tT
      refine XS.istore X0.here hx rfl (Jvm.hb hby at_35) rfl (l' := #[.val (.int p1), .val (.int p2), .val (.int p3), .val (.int p4), .val (.int (5 : Int32)), .val (.int ev), .val (.int tv), .val (.int (1 : Int32)), .unset, .unset, .unset, .unset, .unset, .unset, .unset, .unset, .unset, .unset, .unset, .unset, .unset, .unset, .unset, .unset]) rfl ?_
      refine XS.iload X0.here hx rfl (Jvm.hb hby at_37) rfl ?_
      refine XS.iconst X0.here hx rfl (Jvm.hb hby at_39) ?_
      refine XS.iand X0.here hx rfl (Jvm.hb hby at_40) rfl ?_
      refine XS.ifYes X0.here hx rfl (pc0 := 41) (pc' := 48) rfl (Jvm.hb hby at_41) rfl ((if0 _ _).trans (teq ((by decide) : (0 : Int32) = (0 : Int32))).1) (by decide) (by decide) ?_
      refine XS.iconst X0.here hx rfl (Jvm.hb hby at_48) ?_
      show Steps pP.tables eE below (s₁.setTop (mkF mM 49 #[.val (.int p1), .val (.int p2), .val (.int p3), .val (.int p4), .val (.int (5 : Int32)), .val (.int ev), .val (.int tv), .val (.int (1 : Int32)), .unset, .unset, .unset, .unset, .unset, .unset, .unset, .unset, .unset, .unset, .unset, .unset, .unset, .unset, .unset, .unset] [(.int (0 : Int32))])) tT
      refine XS.istore X0.here hx rfl (Jvm.hb hby at_49) rfl (l' := #[.val (.int p1), .val (.int p2), .val (.int p3), .val (.int p4), .val (.int (5 : Int32)), .val (.int ev), .val (.int tv), .val (.int (1 : Int32)), .val (.int (0 : Int32)), .unset, .unset, .unset, .unset, .unset, .unset, .unset, .unset, .unset, .unset, .unset, .unset, .unset, .unset, .unset]) rfl ?_
      refine XS.iload X0.here hx rfl (Jvm.hb hby at_51) rfl ?_
      refine XS.iconst X0.here hx rfl (Jvm.hb hby at_53) ?_
      refine XS.iand X0.here hx rfl (Jvm.hb hby at_54) rfl ?_
      refine XS.ifNo X0.here hx rfl (Jvm.hb hby at_55) rfl ((if0 _ _).trans (feq ((by decide) : ¬ ((4 : Int32) = (0 : Int32)))).1) ?_
      refine XS.iconst X0.here hx rfl (Jvm.hb hby at_58) ?_
      show Steps pP.tables eE below (s₁.setTop (mkF mM 59 #[.val (.int p1), .val (.int p2), .val (.int p3), .val (.int p4), .val (.int (5 : Int32)), .val (.int ev), .val (.int tv), .val (.int (1 : Int32)), .val (.int (0 : Int32)), .unset, .unset, .unset, .unset, .unset, .unset, .unset, .unset, .unset, .unset, .unset, .unset, .unset, .unset, .unset] [(.int (1 : Int32))])) tT
      refine XS.goto X0.here hx rfl (pc0 := 59) (pc' := 63) rfl (Jvm.hb hby at_59) (by decide) (by decide) ?_
      refine XS.istore X0.here hx rfl (Jvm.hb hby at_63) rfl (l' := #[.val (.int p1), .val (.int p2), .val (.int p3), .val (.int p4), .val (.int (5 : Int32)), .val (.int ev), .val (.int tv), .val (.int (1 : Int32)), .val (.int (0 : Int32)), .val (.int (1 : Int32)), .unset, .unset, .unset, .unset, .unset, .unset, .unset, .unset, .unset, .unset, .unset, .unset, .unset, .unset]) rfl ?_
      refine XS.iload X0.here hx rfl (Jvm.hb hby at_65) rfl ?_
      refine XS.bipush X0.here hx rfl (Jvm.hb hby at_67) ?_
      refine XS.iand X0.here hx rfl (Jvm.hb hby at_69) rfl ?_
      refine XS.ifYes X0.here hx rfl (pc0 := 70) (pc' := 77) rfl (Jvm.hb hby at_70) rfl ((if0 _ _).trans (teq ((by decide) : (0 : Int32) = (0 : Int32))).1) (by decide) (by decide) ?_
      show Steps pP.tables eE below (s₁.setTop (mkF mM 77 #[.val (.int p1), .val (.int p2), .val (.int p3), .val (.int p4), .val (.int (5 : Int32)), .val (.int ev), .val (.int tv), .val (.int (1 : Int32)), .val (.int (0 : Int32)), .val (.int (1 : Int32)), .unset, .unset, .unset, .unset, .unset, .unset, .unset, .unset, .unset, .unset, .unset, .unset, .unset, .unset] [])) tT
      refine XS.iconst X0.here hx rfl (Jvm.hb hby at_77) ?_
      refine XS.istore X0.here hx rfl (Jvm.hb hby at_78) rfl (l' := #[.val (.int p1), .val (.int p2), .val (.int p3), .val (.int p4), .val (.int (5 : Int32)), .val (.int ev), .val (.int tv), .val (.int (1 : Int32)), .val (.int (0 : Int32)), .val (.int (1 : Int32)), .val (.int (0 : Int32)), .unset, .unset, .unset, .unset, .unset, .unset, .unset, .unset, .unset, .unset, .unset, .unset, .unset]) rfl ?_
      refine XS.iload X0.here hx rfl (Jvm.hb hby at_80) rfl ?_
      refine XS.ifNo X0.here hx rfl (Jvm.hb hby at_82) rfl ((if0 _ _).trans (feq ((by decide) : ¬ ((1 : Int32) = (0 : Int32)))).1) ?_
      refine XS.iconst X0.here hx rfl (Jvm.hb hby at_85) ?_
      refine XS.goto X0.here hx rfl (pc0 := 86) (pc' := 90) rfl (Jvm.hb hby at_86) (by decide) (by decide) ?_
      show Steps pP.tables eE below (s₁.setTop (mkF mM 90 #[.val (.int p1), .val (.int p2), .val (.int p3), .val (.int p4), .val (.int (5 : Int32)), .val (.int ev), .val (.int tv), .val (.int (1 : Int32)), .val (.int (0 : Int32)), .val (.int (1 : Int32)), .val (.int (0 : Int32)), .unset, .unset, .unset, .unset, .unset, .unset, .unset, .unset, .unset, .unset, .unset, .unset, .unset] [(.int (1 : Int32))])) tT
      refine XS.iload X0.here hx rfl (Jvm.hb hby at_90) rfl ?_
      refine XS.ifYes X0.here hx rfl (pc0 := 92) (pc' := 99) rfl (Jvm.hb hby at_92) rfl ((if0 _ _).trans (teq ((by decide) : (0 : Int32) = (0 : Int32))).1) (by decide) (by decide) ?_
      refine XS.iconst X0.here hx rfl (Jvm.hb hby at_99) ?_
      refine XS.iadd X0.here hx rfl (Jvm.hb hby at_100) rfl ?_
      refine XS.iload X0.here hx rfl (Jvm.hb hby at_101) rfl ?_
      refine XS.ifNo X0.here hx rfl (Jvm.hb hby at_103) rfl ((if0 _ _).trans (feq ((by decide) : ¬ ((1 : Int32) = (0 : Int32)))).1) ?_
      show Steps pP.tables eE below (s₁.setTop (mkF mM 106 #[.val (.int p1), .val (.int p2), .val (.int p3), .val (.int p4), .val (.int (5 : Int32)), .val (.int ev), .val (.int tv), .val (.int (1 : Int32)), .val (.int (0 : Int32)), .val (.int (1 : Int32)), .val (.int (0 : Int32)), .unset, .unset, .unset, .unset, .unset, .unset, .unset, .unset, .unset, .unset, .unset, .unset, .unset] [(.int (1 : Int32))])) tT
      refine XS.iconst X0.here hx rfl (Jvm.hb hby at_106) ?_
      refine XS.goto X0.here hx rfl (pc0 := 107) (pc' := 111) rfl (Jvm.hb hby at_107) (by decide) (by decide) ?_
      refine XS.iadd X0.here hx rfl (Jvm.hb hby at_111) rfl ?_
      refine XS.iload X0.here hx rfl (Jvm.hb hby at_112) rfl ?_
      refine XS.ifYes X0.here hx rfl (pc0 := 114) (pc' := 121) rfl (Jvm.hb hby at_114) rfl ((if0 _ _).trans (teq ((by decide) : (0 : Int32) = (0 : Int32))).1) (by decide) (by decide) ?_
      refine XS.iconst X0.here hx rfl (Jvm.hb hby at_121) ?_
      show Steps pP.tables eE below (s₁.setTop (mkF mM 122 #[.val (.int p1), .val (.int p2), .val (.int p3), .val (.int p4), .val (.int (5 : Int32)), .val (.int ev), .val (.int tv), .val (.int (1 : Int32)), .val (.int (0 : Int32)), .val (.int (1 : Int32)), .val (.int (0 : Int32)), .unset, .unset, .unset, .unset, .unset, .unset, .unset, .unset, .unset, .unset, .unset, .unset, .unset] [(.int (0 : Int32)), (.int (2 : Int32))])) tT
      refine XS.iadd X0.here hx rfl (Jvm.hb hby at_122) rfl ?_
      refine XS.istore X0.here hx rfl (Jvm.hb hby at_123) rfl (l' := #[.val (.int p1), .val (.int p2), .val (.int p3), .val (.int p4), .val (.int (5 : Int32)), .val (.int ev), .val (.int tv), .val (.int (1 : Int32)), .val (.int (0 : Int32)), .val (.int (1 : Int32)), .val (.int (0 : Int32)), .val (.int (2 : Int32)), .unset, .unset, .unset, .unset, .unset, .unset, .unset, .unset, .unset, .unset, .unset, .unset]) rfl ?_
      refine XS.iload X0.here hx rfl (Jvm.hb hby at_125) rfl ?_
      exact kK
    obtain ⟨T99_, h99_, k99_, X99_, e99_, E99_, A99_, st99_⟩ := newP X0 hx hZ (hw _ (List.mem_of_getElem? (i := 1) rfl)) e0 (g := (mkF mM 127 #[.val (.int p1), .val (.int p2), .val (.int p3), .val (.int p4), .val (.int (5 : Int32)), .val (.int ev), .val (.int tv), .val (.int (1 : Int32)), .val (.int (0 : Int32)), .val (.int (1 : Int32)), .val (.int (0 : Int32)), .val (.int (2 : Int32)), .unset, .unset, .unset, .unset, .unset, .unset, .unset, .unset, .unset, .unset, .unset, .unset] [(.int (2 : Int32))])) rfl (Jvm.hb hby at_127) rfl (by decide) (cap := 4) (by decide) (by decide) (by decide) (by decide)
    obtain ⟨b99_, g99_⟩ : ∃ z, z = h0.size := ⟨_, rfl⟩
    rw [← g99_] at A99_ st99_
    have sz_b99_ : h0.size ≤ b99_ := Nat.le_trans K0.1 (Nat.le_of_eq g99_.symm)
    have ge_b99_ : n0 ≤ b99_ := Nat.le_trans Z0 sz_b99_
    have K99_ := K0.ext E99_
    have V99_ : own_T Z h99_ b99_ .int (2 : Int32) (fun _ => (0 : Int32)) := own_T.new A99_ (by decide) rfl
    refine own_fin st99_ ?_
    show own_Fin pP eE below _ (T99_.setTop (mkF mM 129 #[.val (.int p1), .val (.int p2), .val (.int p3), .val (.int p4), .val (.int (5 : Int32)), .val (.int ev), .val (.int tv), .val (.int (1 : Int32)), .val (.int (0 : Int32)), .val (.int (1 : Int32)), .val (.int (0 : Int32)), .val (.int (2 : Int32)), .unset, .unset, .unset, .unset, .unset, .unset, .unset, .unset, .unset, .unset, .unset, .unset] [(.ref b99_)]))
    refine own_fin (b := T99_.setTop (mkF mM 144 #[.val (.int p1), .val (.int p2), .val (.int p3), .val (.int p4), .val (.int (5 : Int32)), .val (.int ev), .val (.int tv), .val (.int (1 : Int32)), .val (.int (0 : Int32)), .val (.int (1 : Int32)), .val (.int (0 : Int32)), .val (.int (2 : Int32)), .val (.ref b99_), .val (.int (0 : Int32)), .unset, .unset, .unset, .unset, .unset, .unset, .unset, .unset, .unset, .unset] [(.int (0 : Int32)), (.int (0 : Int32)), (.ref b99_)])) (fun tT kK => ?_) ?_
    · show Steps pP.tables eE below (T99_.setTop (mkF mM 129 #[.val (.int p1), .val (.int p2), .val (.int p3), .val (.int p4), .val (.int (5 : Int32)), .val (.int ev), .val (.int tv), .val (.int (1 : Int32)), .val (.int (0 : Int32)), .val (.int (1 : Int32)), .val (.int (0 : Int32)), .val (.int (2 : Int32)), .unset, .unset, .unset, .unset, .unset, .unset, .unset, .unset, .unset, .unset, .unset, .unset] [(.ref b99_)])) tT
      refine XS.astore X99_.here hx rfl (Jvm.hb hby at_129) rfl rfl (l' := #[.val (.int p1), .val (.int p2), .val (.int p3), .val (.int p4), .val (.int (5 : Int32)), .val (.int ev), .val (.int tv), .val (.int (1 : Int32)), .val (.int (0 : Int32)), .val (.int (1 : Int32)), .val (.int (0 : Int32)), .val (.int (2 : Int32)), .val (.ref b99_), .unset, .unset, .unset, .unset, .unset, .unset, .unset, .unset, .unset, .unset, .unset]) rfl ?_
      refine XS.iconst X99_.here hx rfl (Jvm.hb hby at_131) ?_
      refine XS.istore X99_.here hx rfl (Jvm.hb hby at_132) rfl (l' := #[.val (.int p1), .val (.int p2), .val (.int p3), .val (.int p4), .val (.int (5 : Int32)), .val (.int ev), .val (.int tv), .val (.int (1 : Int32)), .val (.int (0 : Int32)), .val (.int (1 : Int32)), .val (.int (0 : Int32)), .val (.int (2 : Int32)), .val (.ref b99_), .val (.int (0 : Int32)), .unset, .unset, .unset, .unset, .unset, .unset, .unset, .unset, .unset, .unset]) rfl ?_
      show Steps pP.tables eE below (T99_.setTop (mkF mM 134 #[.val (.int p1), .val (.int p2), .val (.int p3), .val (.int p4), .val (.int (5 : Int32)), .val (.int ev), .val (.int tv), .val (.int (1 : Int32)), .val (.int (0 : Int32)), .val (.int (1 : Int32)), .val (.int (0 : Int32)), .val (.int (2 : Int32)), .val (.ref b99_), .val (.int (0 : Int32)), .unset, .unset, .unset, .unset, .unset, .unset, .unset, .unset, .unset, .unset] [])) tT
      refine XS.iload X99_.here hx rfl (Jvm.hb hby at_134) rfl ?_
      refine XS.ifNo X99_.here hx rfl (Jvm.hb hby at_136) rfl ((if0 _ _).trans (feq ((by decide) : ¬ ((1 : Int32) = (0 : Int32)))).1) ?_
      refine XS.aload X99_.here hx rfl (Jvm.hb hby at_139) rfl rfl ?_
      refine XS.iload X99_.here hx rfl (Jvm.hb hby at_141) rfl ?_
      refine XS.iconst X99_.here hx rfl (Jvm.hb hby at_143) ?_
      exact kK
    obtain ⟨cl100_, Ar100_, Sz100_, Nn100_, Hh100_⟩ := id V99_
    have hin100_ : ¬ ((0 : Int32) < 0 ∨ cl100_.slots.size ≤ ((0 : Int32)).toNatClampNeg) := inb_of Sz100_ ⟨by decide, by decide⟩
    obtain ⟨T100_, h100_, X100_, e100_, W100_, st100_⟩ := stI X99_ hx hZ e99_ Ar100_ (j := (0 : Int32)) hin100_ (g := (mkF mM 144 #[.val (.int p1), .val (.int p2), .val (.int p3), .val (.int p4), .val (.int (5 : Int32)), .val (.int ev), .val (.int tv), .val (.int (1 : Int32)), .val (.int (0 : Int32)), .val (.int (1 : Int32)), .val (.int (0 : Int32)), .val (.int (2 : Int32)), .val (.ref b99_), .val (.int (0 : Int32)), .unset, .unset, .unset, .unset, .unset, .unset, .unset, .unset, .unset, .unset] [(.int (0 : Int32)), (.int (0 : Int32)), (.ref b99_)])) rfl rfl (Jvm.hb hby at_144)
    have U100_ : own_T Z h100_ b99_ .int (2 : Int32) (own_up (fun _ => (0 : Int32)) (0 : Int32) (0 : Int32)) := own_T.set ⟨cl100_, Ar100_, Sz100_, Nn100_, Hh100_⟩ W100_ ⟨by decide, by decide⟩
    have K100_ := K99_.wr W100_ (Or.inr sz_b99_)
    have N100_ := Fr.snoc X100_ N0 ge_b99_
    refine own_fin st100_ ?_
    show own_Fin pP eE below _ (T100_.setTop (mkF mM 145 #[.val (.int p1), .val (.int p2), .val (.int p3), .val (.int p4), .val (.int (5 : Int32)), .val (.int ev), .val (.int tv), .val (.int (1 : Int32)), .val (.int (0 : Int32)), .val (.int (1 : Int32)), .val (.int (0 : Int32)), .val (.int (2 : Int32)), .val (.ref b99_), .val (.int (0 : Int32)), .unset, .unset, .unset, .unset, .unset, .unset, .unset, .unset, .unset, .unset] []))
    refine own_fin (b := T100_.setTop (mkF mM 172 #[.val (.int p1), .val (.int p2), .val (.int p3), .val (.int p4), .val (.int (5 : Int32)), .val (.int ev), .val (.int tv), .val (.int (1 : Int32)), .val (.int (0 : Int32)), .val (.int (1 : Int32)), .val (.int (0 : Int32)), .val (.int (2 : Int32)), .val (.ref b99_), .val (.int (1 : Int32)), .unset, .unset, .unset, .unset, .unset, .unset, .unset, .unset, .unset, .unset] [(.int (2 : Int32)), (.int (1 : Int32)), (.ref b99_)])) (fun tT kK => ?_) ?_
    · show Steps pP.tables eE below (T100_.setTop (mkF mM 145 #[.val (.int p1), .val (.int p2), .val (.int p3), .val (.int p4), .val (.int (5 : Int32)), .val (.int ev), .val (.int tv), .val (.int (1 : Int32)), .val (.int (0 : Int32)), .val (.int (1 : Int32)), .val (.int (0 : Int32)), .val (.int (2 : Int32)), .val (.ref b99_), .val (.int (0 : Int32)), .unset, .unset, .unset, .unset, .unset, .unset, .unset, .unset, .unset, .unset] [])) tT
      refine XS.iinc X100_.here hx rfl (Jvm.hb hby at_145) rfl (l' := #[.val (.int p1), .val (.int p2), .val (.int p3), .val (.int p4), .val (.int (5 : Int32)), .val (.int ev), .val (.int tv), .val (.int (1 : Int32)), .val (.int (0 : Int32)), .val (.int (1 : Int32)), .val (.int (0 : Int32)), .val (.int (2 : Int32)), .val (.ref b99_), .val (.int (1 : Int32)), .unset, .unset, .unset, .unset, .unset, .unset, .unset, .unset, .unset, .unset]) rfl ?_
      show Steps pP.tables eE below (T100_.setTop (mkF mM 148 #[.val (.int p1), .val (.int p2), .val (.int p3), .val (.int p4), .val (.int (5 : Int32)), .val (.int ev), .val (.int tv), .val (.int (1 : Int32)), .val (.int (0 : Int32)), .val (.int (1 : Int32)), .val (.int (0 : Int32)), .val (.int (2 : Int32)), .val (.ref b99_), .val (.int (1 : Int32)), .unset, .unset, .unset, .unset, .unset, .unset, .unset, .unset, .unset, .unset] [])) tT
      refine XS.iload X100_.here hx rfl (Jvm.hb hby at_148) rfl ?_
      refine XS.ifYes X100_.here hx rfl (pc0 := 150) (pc' := 162) rfl (Jvm.hb hby at_150) rfl ((if0 _ _).trans (teq ((by decide) : (0 : Int32) = (0 : Int32))).1) (by decide) (by decide) ?_
      refine XS.iload X100_.here hx rfl (Jvm.hb hby at_162) rfl ?_
      refine XS.ifNo X100_.here hx rfl (Jvm.hb hby at_164) rfl ((if0 _ _).trans (feq ((by decide) : ¬ ((1 : Int32) = (0 : Int32)))).1) ?_
      refine XS.aload X100_.here hx rfl (Jvm.hb hby at_167) rfl rfl ?_
      refine XS.iload X100_.here hx rfl (Jvm.hb hby at_169) rfl ?_
      show Steps pP.tables eE below (T100_.setTop (mkF mM 171 #[.val (.int p1), .val (.int p2), .val (.int p3), .val (.int p4), .val (.int (5 : Int32)), .val (.int ev), .val (.int tv), .val (.int (1 : Int32)), .val (.int (0 : Int32)), .val (.int (1 : Int32)), .val (.int (0 : Int32)), .val (.int (2 : Int32)), .val (.ref b99_), .val (.int (1 : Int32)), .unset, .unset, .unset, .unset, .unset, .unset, .unset, .unset, .unset, .unset] [(.int (1 : Int32)), (.ref b99_)])) tT
      refine XS.iconst X100_.here hx rfl (Jvm.hb hby at_171) ?_
      exact kK
    obtain ⟨cl101_, Ar101_, Sz101_, Nn101_, Hh101_⟩ := id U100_
    have hin101_ : ¬ ((1 : Int32) < 0 ∨ cl101_.slots.size ≤ ((1 : Int32)).toNatClampNeg) := inb_of Sz101_ ⟨by decide, by decide⟩
    obtain ⟨T101_, h101_, X101_, e101_, W101_, st101_⟩ := stI X100_ hx hZ e100_ Ar101_ (j := (1 : Int32)) hin101_ (g := (mkF mM 172 #[.val (.int p1), .val (.int p2), .val (.int p3), .val (.int p4), .val (.int (5 : Int32)), .val (.int ev), .val (.int tv), .val (.int (1 : Int32)), .val (.int (0 : Int32)), .val (.int (1 : Int32)), .val (.int (0 : Int32)), .val (.int (2 : Int32)), .val (.ref b99_), .val (.int (1 : Int32)), .unset, .unset, .unset, .unset, .unset, .unset, .unset, .unset, .unset, .unset] [(.int (2 : Int32)), (.int (1 : Int32)), (.ref b99_)])) rfl rfl (Jvm.hb hby at_172)
    have U101_ : own_T Z h101_ b99_ .int (2 : Int32) (own_up (own_up (fun _ => (0 : Int32)) (0 : Int32) (0 : Int32)) (1 : Int32) (2 : Int32)) := own_T.set ⟨cl101_, Ar101_, Sz101_, Nn101_, Hh101_⟩ W101_ ⟨by decide, by decide⟩
    have K101_ := K100_.wr W101_ (Or.inr sz_b99_)
    have N101_ := Fr.snoc X101_ N100_ ge_b99_
    refine own_fin st101_ ?_
    show own_Fin pP eE below _ (T101_.setTop (mkF mM 173 #[.val (.int p1), .val (.int p2), .val (.int p3), .val (.int p4), .val (.int (5 : Int32)), .val (.int ev), .val (.int tv), .val (.int (1 : Int32)), .val (.int (0 : Int32)), .val (.int (1 : Int32)), .val (.int (0 : Int32)), .val (.int (2 : Int32)), .val (.ref b99_), .val (.int (1 : Int32)), .unset, .unset, .unset, .unset, .unset, .unset, .unset, .unset, .unset, .unset] []))
    refine own_fin (b := T101_.setTop (mkF mM 190 #[.val (.int p1), .val (.int p2), .val (.int p3), .val (.int p4), .val (.int (5 : Int32)), .val (.int ev), .val (.int tv), .val (.int (1 : Int32)), .val (.int (0 : Int32)), .val (.int (1 : Int32)), .val (.int (0 : Int32)), .val (.int (2 : Int32)), .val (.ref b99_), .val (.int (2 : Int32)), .unset, .unset, .unset, .unset, .unset, .unset, .unset, .unset, .unset, .unset] [])) (fun tT kK => ?_) ?_
    · show Steps pP.tables eE below (T101_.setTop (mkF mM 173 #[.val (.int p1), .val (.int p2), .val (.int p3), .val (.int p4), .val (.int (5 : Int32)), .val (.int ev), .val (.int tv), .val (.int (1 : Int32)), .val (.int (0 : Int32)), .val (.int (1 : Int32)), .val (.int (0 : Int32)), .val (.int (2 : Int32)), .val (.ref b99_), .val (.int (1 : Int32)), .unset, .unset, .unset, .unset, .unset, .unset, .unset, .unset, .unset, .unset] [])) tT
      refine XS.iinc X101_.here hx rfl (Jvm.hb hby at_173) rfl (l' := #[.val (.int p1), .val (.int p2), .val (.int p3), .val (.int p4), .val (.int (5 : Int32)), .val (.int ev), .val (.int tv), .val (.int (1 : Int32)), .val (.int (0 : Int32)), .val (.int (1 : Int32)), .val (.int (0 : Int32)), .val (.int (2 : Int32)), .val (.ref b99_), .val (.int (2 : Int32)), .unset, .unset, .unset, .unset, .unset, .unset, .unset, .unset, .unset, .unset]) rfl ?_
      refine XS.iload X101_.here hx rfl (Jvm.hb hby at_176) rfl ?_
      refine XS.ifYes X101_.here hx rfl (pc0 := 178) (pc' := 190) rfl (Jvm.hb hby at_178) rfl ((if0 _ _).trans (teq ((by decide) : (0 : Int32) = (0 : Int32))).1) (by decide) (by decide) ?_
      exact kK
    show own_Fin pP eE below _ (T101_.setTop (mkF mM 190 #[.val (.int p1), .val (.int p2), .val (.int p3), .val (.int p4), .val (.int (5 : Int32)), .val (.int ev), .val (.int tv), .val (.int (1 : Int32)), .val (.int (0 : Int32)), .val (.int (1 : Int32)), .val (.int (0 : Int32)), .val (.int (2 : Int32)), .val (.ref b99_), .val (.int (2 : Int32)), .unset, .unset, .unset, .unset, .unset, .unset, .unset, .unset, .unset, .unset] []))
    exact jp1_ (1 : Int32) (0 : Int32) (1 : Int32) (0 : Int32) (2 : Int32) b99_ (own_up (own_up (fun _ => (0 : Int32)) (0 : Int32) (0 : Int32)) (1 : Int32) (2 : Int32)) _ _ _ _ own_St5 ge_b99_ X101_ e101_ K101_ U101_ N101_
  · show own_Fin pP eE below _ (s₁.setTop (mkF mM 23 #[.val (.int p1), .val (.int p2), .val (.int p3), .val (.int p4), .val (.int (6 : Int32)), .val (.int ev), .val (.int tv), .unset, .unset, .unset, .unset, .unset, .unset, .unset, .unset, .unset, .unset, .unset, .unset, .unset, .unset, .unset, .unset, .unset] []))
    refine own_fin (b := s₁.setTop (mkF mM 127 #[.val (.int p1), .val (.int p2), .val (.int p3), .val (.int p4), .val (.int (6 : Int32)), .val (.int ev), .val (.int tv), .val (.int (0 : Int32)), .val (.int (1 : Int32)), .val (.int (1 : Int32)), .val (.int (0 : Int32)), .val (.int (2 : Int32)), .unset, .unset, .unset, .unset, .unset, .unset, .unset, .unset, .unset, .unset, .unset, .unset] [(.int (2 : Int32))])) (fun tT kK => ?_) ?_
    · show Steps pP.tables eE below (s₁.setTop (mkF mM 23 #[.val (.int p1), .val (.int p2), .val (.int p3), .val (.int p4), .val (.int (6 : Int32)), .val (.int ev), .val (.int tv), .unset, .unset, .unset, .unset, .unset, .unset, .unset, .unset, .unset, .unset, .unset, .unset, .unset, .unset, .unset, .unset, .unset] [])) tT
      refine XS.iload X0.here hx rfl (Jvm.hb hby at_23) rfl ?_
      refine XS.iconst X0.here hx rfl (Jvm.hb hby at_25) ?_
      refine XS.iand X0.here hx rfl (Jvm.hb hby at_26) rfl ?_
      refine XS.ifYes X0.here hx rfl (pc0 := 27) (pc' := 34) rfl (Jvm.hb hby at_27) rfl ((if0 _ _).trans (teq ((by decide) : (0 : Int32) = (0 : Int32))).1) (by decide) (by decide) ?_
      refine XS.iconst X0.here hx rfl (Jvm.hb hby at_34) ?_
      refine XS.istore X0.here hx rfl (Jvm.hb hby at_35) rfl (l' := #[.val (.int p1), .val (.int p2), .val (.int p3), .val (.int p4), .val (.int (6 : Int32)), .val (.int ev), .val (.int tv), .val (.int (0 : Int32)), .unset, .unset, .unset, .unset, .unset, .unset, .unset, .unset, .unset, .unset, .unset, .unset, .unset, .unset, .unset, .unset]) rfl ?_
      show Steps pP.tables eE below (s₁.setTop (mkF mM 37 #[.val (.int p1), .val (.int p2), .val (.int p3), .val (.int p4), .val (.int (6 : Int32)), .val (.int ev), .val (.int tv), .val (.int (0 : Int32)), .unset, .unset, .unset, .unset, .unset, .unset, .unset, .unset, .unset, .unset, .unset, .unset, .unset, .unset, .unset, .unset] [])) tT
      refine XS.iload X0.here hx rfl (Jvm.hb hby at_37) rfl ?_
      refine XS.iconst X0.here hx rfl (Jvm.hb hby at_39) ?_
      refine XS.iand X0.here hx rfl (Jvm.hb hby at_40) rfl ?_
      refine XS.ifNo X0.here hx rfl (Jvm.hb hby at_41) rfl ((if0 _ _).trans (feq ((by decide) : ¬ ((2 : Int32) = (0 : Int32)))).1) ?_
      refine XS.iconst X0.here hx rfl (Jvm.hb hby at_44) ?_
      refine XS.goto X0.here hx rfl (pc0 := 45) (pc' := 49) rfl (Jvm.hb hby at_45) (by decide) (by decide) ?_
      show Steps pP.tables eE below (s₁.setTop (mkF mM 49 #[.val (.int p1), .val (.int p2), .val (.int p3), .val (.int p4), .val (.int (6 : Int32)), .val (.int ev), .val (.int tv), .val (.int (0 : Int32)), .unset, .unset, .unset, .unset, .unset, .unset, .unset, .unset, .unset, .unset, .unset, .unset, .unset, .unset, .unset, .unset] [(.int (1 : Int32))])) tT
      refine XS.istore X0.here hx rfl (Jvm.hb hby at_49) rfl (l' := #[.val (.int p1), .val (.int p2), .val (.int p3), .val (.int p4), .val (.int (6 : Int32)), .val (.int ev), .val (.int tv), .val (.int (0 : Int32)), .val (.int (1 : Int32)), .unset, .unset, .unset, .unset, .unset, .unset, .unset, .unset, .unset, .unset, .unset, .unset, .unset, .unset, .unset]) rfl ?_
      refine XS.iload X0.here hx rfl (Jvm.hb hby at_51) rfl ?_
      refine XS.iconst X0.here hx rfl (Jvm.hb hby at_53) ?_
      refine XS.iand X0.here hx rfl (Jvm.hb hby at_54) rfl ?_
      refine XS.ifNo X0.here hx rfl (Jvm.hb hby at_55) rfl ((if0 _ _).trans (feq ((by decide) : ¬ ((4 : Int32) = (0 : Int32)))).1) ?_
      refine XS.iconst X0.here hx rfl (Jvm.hb hby at_58) ?_
      show Steps pP.tables eE below (s₁.setTop (mkF mM 59 #[.val (.int p1), .val (.int p2), .val (.int p3), .val (.int p4), .val (.int (6 : Int32)), .val (.int ev), .val (.int tv), .val (.int (0 : Int32)), .val (.int (1 : Int32)), .unset, .unset, .unset, .unset, .unset, .unset, .unset, .unset, .unset, .unset, .unset, .unset, .unset, .unset, .unset] [(.int (1 : Int32))])) tT
      refine XS.goto X0.here hx rfl (pc0 := 59) (pc' := 63) rfl (Jvm.hb hby at_59) (by decide) (by decide) ?_
      refine XS.istore X0.here hx rfl (Jvm.hb hby at_63) rfl (l' := #[.val (.int p1), .val (.int p2), .val (.int p3), .val (.int p4), .val (.int (6 : Int32)), .val (.int ev), .val (.int tv), .val (.int (0 : Int32)), .val (.int (1 : Int32)), .val (.int (1 : Int32)), .unset, .unset, .unset, .unset, .unset, .unset, .unset, .unset, .unset, .unset, .unset, .unset, .unset, .unset]) rfl ?_
      refine XS.iload X0.here hx rfl (Jvm.hb hby at_65) rfl ?_
      refine XS.bipush X0.here hx rfl (Jvm.hb hby at_67) ?_
      refine XS.iand X0.here hx rfl (Jvm.hb hby at_69) rfl ?_
      refine XS.ifYes X0.here hx rfl (pc0 := 70) (pc' := 77) rfl (Jvm.hb hby at_70) rfl ((if0 _ _).trans (teq ((by decide) : (0 : Int32) = (0 : Int32))).1) (by decide) (by decide) ?_
      show Steps pP.tables eE below (s₁.setTop (mkF mM 77 #[.val (.int p1), .val (.int p2), .val (.int p3), .val (.int p4), .val (.int (6 : Int32)), .val (.int ev), .val (.int tv), .val (.int (0 : Int32)), .val (.int (1 : Int32)), .val (.int (1 : Int32)), .unset, .unset, .unset, .unset, .unset, .unset, .unset, .unset, .unset, .unset, .unset, .unset, .unset, .unset] [])) tT
      refine XS.iconst X0.here hx rfl (Jvm.hb hby at_77) ?_
      refine XS.istore X0.here hx rfl (Jvm.hb hby at_78) rfl (l' := #[.val (.int p1), .val (.int p2), .val (.int p3), .val (.int p4), .val (.int (6 : Int32)), .val (.int ev), .val (.int tv), .val (.int (0 : Int32)), .val (.int (1 : Int32)), .val (.int (1 : Int32)), .val (.int (0 : Int32)), .unset, .unset, .unset, .unset, .unset, .unset, .unset, .unset, .unset, .unset, .unset, .unset, .unset]) rfl ?_
      refine XS.iload X0.here hx rfl (Jvm.hb hby at_80) rfl ?_
      refine XS.ifYes X0.here hx rfl (pc0 := 82) (pc' := 89) rfl (Jvm.hb hby at_82) rfl ((if0 _ _).trans (teq ((by decide) : (0 : Int32) = (0 : Int32))).1) (by decide) (by decide) ?_
      refine XS.iconst X0.here hx rfl (Jvm.hb hby at_89) ?_
      refine XS.iload X0.here hx rfl (Jvm.hb hby at_90) rfl ?_
      show Steps pP.tables eE below (s₁.setTop (mkF mM 92 #[.val (.int p1), .val (.int p2), .val (.int p3), .val (.int p4), .val (.int (6 : Int32)), .val (.int ev), .val (.int tv), .val (.int (0 : Int32)), .val (.int (1 : Int32)), .val (.int (1 : Int32)), .val (.int (0 : Int32)), .unset, .unset, .unset, .unset, .unset, .unset, .unset, .unset, .unset, .unset, .unset, .unset, .unset] [(.int (1 : Int32)), (.int (0 : Int32))])) tT
      refine XS.ifNo X0.here hx rfl (Jvm.hb hby at_92) rfl ((if0 _ _).trans (feq ((by decide) : ¬ ((1 : Int32) = (0 : Int32)))).1) ?_
      refine XS.iconst X0.here hx rfl (Jvm.hb hby at_95) ?_
      refine XS.goto X0.here hx rfl (pc0 := 96) (pc' := 100) rfl (Jvm.hb hby at_96) (by decide) (by decide) ?_
      refine XS.iadd X0.here hx rfl (Jvm.hb hby at_100) rfl ?_
      refine XS.iload X0.here hx rfl (Jvm.hb hby at_101) rfl ?_
      refine XS.ifNo X0.here hx rfl (Jvm.hb hby at_103) rfl ((if0 _ _).trans (feq ((by decide) : ¬ ((1 : Int32) = (0 : Int32)))).1) ?_
      show Steps pP.tables eE below (s₁.setTop (mkF mM 106 #[.val (.int p1), .val (.int p2), .val (.int p3), .val (.int p4), .val (.int (6 : Int32)), .val (.int ev), .val (.int tv), .val (.int (0 : Int32)), .val (.int (1 : Int32)), .val (.int (1 : Int32)), .val (.int (0 : Int32)), .unset, .unset, .unset, .unset, .unset, .unset, .unset, .unset, .unset, .unset, .unset, .unset, .unset] [(.int (1 : Int32))])) tT
      refine XS.iconst X0.here hx rfl (Jvm.hb hby at_106) ?_
      refine XS.goto X0.here hx rfl (pc0 := 107) (pc' := 111) rfl (Jvm.hb hby at_107) (by decide) (by decide) ?_
      refine XS.iadd X0.here hx rfl (Jvm.hb hby at_111) rfl ?_
      refine XS.iload X0.here hx rfl (Jvm.hb hby at_112) rfl ?_
      refine XS.ifYes X0.here hx rfl (pc0 := 114) (pc' := 121) rfl (Jvm.hb hby at_114) rfl ((if0 _ _).trans (teq ((by decide) : (0 : Int32) = (0 : Int32))).1) (by decide) (by decide) ?_
      refine XS.iconst X0.here hx rfl (Jvm.hb hby at_121) ?_
      show Steps pP.tables eE below (s₁.setTop (mkF mM 122 #[.val (.int p1), .val (.int p2), .val (.int p3), .val (.int p4), .val (.int (6 : Int32)), .val (.int ev), .val (.int tv), .val (.int (0 : Int32)), .val (.int (1 : Int32)), .val (.int (1 : Int32)), .val (.int (0 : Int32)), .unset, .unset, .unset, .unset, .unset, .unset, .unset, .unset, .unset, .unset, .unset, .unset, .unset] [(.int (0 : Int32)), (.int (2 : Int32))])) tT
      refine XS.iadd X0.here hx rfl (Jvm.hb hby at_122) rfl ?_
      refine XS.istore X0.here hx rfl (Jvm.hb hby at_123) rfl (l' := #[.val (.int p1), .val (.int p2), .val (.int p3), .val (.int p4), .val (.int (6 : Int32)), .val (.int ev), .val (.int tv), .val (.int (0 : Int32)), .val (.int (1 : Int32)), .val (.int (1 : Int32)), .val (.int (0 : Int32)), .val (.int (2 : Int32)), .unset, .unset, .unset, .unset, .unset, .unset, .unset, .unset, .unset, .unset, .unset, .unset]) rfl ?_
      refine XS.iload X0.here hx rfl (Jvm.hb hby at_125) rfl ?_
      exact kK
    obtain ⟨T102_, h102_, k102_, X102_, e102_, E102_, A102_, st102_⟩ := newP X0 hx hZ (hw _ (List.mem_of_getElem? (i := 1) rfl)) e0 (g := (mkF mM 127 #[.val (.int p1), .val (.int p2), .val (.int p3), .val (.int p4), .val (.int (6 : Int32)), .val (.int ev), .val (.int tv), .val (.int (0 : Int32)), .val (.int (1 : Int32)), .val (.int (1 : Int32)), .val (.int (0 : Int32)), .val (.int (2 : Int32)), .unset, .unset, .unset, .unset, .unset, .unset, .unset, .unset, .unset, .unset, .unset, .unset] [(.int (2 : Int32))])) rfl (Jvm.hb hby at_127) rfl (by decide) (cap := 4) (by decide) (by decide) (by decide) (by decide)
    obtain ⟨b102_, g102_⟩ : ∃ z, z = h0.size := ⟨_, rfl⟩
    rw [← g102_] at A102_ st102_
    have sz_b102_ : h0.size ≤ b102_ := Nat.le_trans K0.1 (Nat.le_of_eq g102_.symm)
    have ge_b102_ : n0 ≤ b102_ := Nat.le_trans Z0 sz_b102_
    have K102_ := K0.ext E102_
    have V102_ : own_T Z h102_ b102_ .int (2 : Int32) (fun _ => (0 : Int32)) := own_T.new A102_ (by decide) rfl
    refine own_fin st102_ ?_
    show own_Fin pP eE below _ (T102_.setTop (mkF mM 129 #[.val (.int p1), .val (.int p2), .val (.int p3), .val (.int p4), .val (.int (6 : Int32)), .val (.int ev), .val (.int tv), .val (.int (0 : Int32)), .val (.int (1 : Int32)), .val (.int (1 : Int32)), .val (.int (0 : Int32)), .val (.int (2 : Int32)), .unset, .unset, .unset, .unset, .unset, .unset, .unset, .unset, .unset, .unset, .unset, .unset] [(.ref b102_)]))
    refine own_fin (b := T102_.setTop (mkF mM 158 #[.val (.int p1), .val (.int p2), .val (.int p3), .val (.int p4), .val (.int (6 : Int32)), .val (.int ev), .val (.int tv), .val (.int (0 : Int32)), .val (.int (1 : Int32)), .val (.int (1 : Int32)), .val (.int (0 : Int32)), .val (.int (2 : Int32)), .val (.ref b102_), .val (.int (0 : Int32)), .unset, .unset, .unset, .unset, .unset, .unset, .unset, .unset, .unset, .unset] [(.int (1 : Int32)), (.int (0 : Int32)), (.ref b102_)])) (fun tT kK => ?_) ?_
    · show Steps pP.tables eE below (T102_.setTop (mkF mM 129 #[.val (.int p1), .val (.int p2), .val (.int p3), .val (.int p4), .val (.int (6 : Int32)), .val (.int ev), .val (.int tv), .val (.int (0 : Int32)), .val (.int (1 : Int32)), .val (.int (1 : Int32)), .val (.int (0 : Int32)), .val (.int (2 : Int32)), .unset, .unset, .unset, .unset, .unset, .unset, .unset, .unset, .unset, .unset, .unset, .unset] [(.ref b102_)])) tT
      refine XS.astore X102_.here hx rfl (Jvm.hb hby at_129) rfl rfl (l' := #[.val (.int p1), .val (.int p2), .val (.int p3), .val (.int p4), .val (.int (6 : Int32)), .val (.int ev), .val (.int tv), .val (.int (0 : Int32)), .val (.int (1 : Int32)), .val (.int (1 : Int32)), .val (.int (0 : Int32)), .val (.int (2 : Int32)), .val (.ref b102_), .unset, .unset, .unset, .unset, .unset, .unset, .unset, .unset, .unset, .unset, .unset]) rfl ?_
      refine XS.iconst X102_.here hx rfl (Jvm.hb hby at_131) ?_
      refine XS.istore X102_.here hx rfl (Jvm.hb hby at_132) rfl (l' := #[.val (.int p1), .val (.int p2), .val (.int p3), .val (.int p4), .val (.int (6 : Int32)), .val (.int ev), .val (.int tv), .val (.int (0 : Int32)), .val (.int (1 : Int32)), .val (.int (1 : Int32)), .val (.int (0 : Int32)), .val (.int (2 : Int32)), .val (.ref b102_), .val (.int (0 : Int32)), .unset, .unset, .unset, .unset, .unset, .unset, .unset, .unset, .unset, .unset]) rfl ?_
      show Steps pP.tables eE below (T102_.setTop (mkF mM 134 #[.val (.int p1), .val (.int p2), .val (.int p3), .val (.int p4), .val (.int (6 : Int32)), .val (.int ev), .val (.int tv), .val (.int (0 : Int32)), .val (.int (1 : Int32)), .val (.int (1 : Int32)), .val (.int (0 : Int32)), .val (.int (2 : Int32)), .val (.ref b102_), .val (.int (0 : Int32)), .unset, .unset, .unset, .unset, .unset, .unset, .unset, .unset, .unset, .unset] [])) tT
      refine XS.iload X102_.here hx rfl (Jvm.hb hby at_134) rfl ?_
      refine XS.ifYes X102_.here hx rfl (pc0 := 136) (pc' := 148) rfl (Jvm.hb hby at_136) rfl ((if0 _ _).trans (teq ((by decide) : (0 : Int32) = (0 : Int32))).1) (by decide) (by decide) ?_
      refine XS.iload X102_.here hx rfl (Jvm.hb hby at_148) rfl ?_
      refine XS.ifNo X102_.here hx rfl (Jvm.hb hby at_150) rfl ((if0 _ _).trans (feq ((by decide) : ¬ ((1 : Int32) = (0 : Int32)))).1) ?_
      refine XS.aload X102_.here hx rfl (Jvm.hb hby at_153) rfl rfl ?_
      refine XS.iload X102_.here hx rfl (Jvm.hb hby at_155) rfl ?_
      show Steps pP.tables eE below (T102_.setTop (mkF mM 157 #[.val (.int p1), .val (.int p2), .val (.int p3), .val (.int p4), .val (.int (6 : Int32)), .val (.int ev), .val (.int tv), .val (.int (0 : Int32)), .val (.int (1 : Int32)), .val (.int (1 : Int32)), .val (.int (0 : Int32)), .val (.int (2 : Int32)), .val (.ref b102_), .val (.int (0 : Int32)), .unset, .unset, .unset, .unset, .unset, .unset, .unset, .unset, .unset, .unset] [(.int (0 : Int32)), (.ref b102_)])) tT
      refine XS.iconst X102_.here hx rfl (Jvm.hb hby at_157) ?_
      exact kK
    obtain ⟨cl103_, Ar103_, Sz103_, Nn103_, Hh103_⟩ := id V102_
    have hin103_ : ¬ ((0 : Int32) < 0 ∨ cl103_.slots.size ≤ ((0 : Int32)).toNatClampNeg) := inb_of Sz103_ ⟨by decide, by decide⟩
    obtain ⟨T103_, h103_, X103_, e103_, W103_, st103_⟩ := stI X102_ hx hZ e102_ Ar103_ (j := (0 : Int32)) hin103_ (g := (mkF mM 158 #[.val (.int p1), .val (.int p2), .val (.int p3), .val (.int p4), .val (.int (6 : Int32)), .val (.int ev), .val (.int tv), .val (.int (0 : Int32)), .val (.int (1 : Int32)), .val (.int (1 : Int32)), .val (.int (0 : Int32)), .val (.int (2 : Int32)), .val (.ref b102_), .val (.int (0 : Int32)), .unset, .unset, .unset, .unset, .unset, .unset, .unset, .unset, .unset, .unset] [(.int (1 : Int32)), (.int (0 : Int32)), (.ref b102_)])) rfl rfl (Jvm.hb hby at_158)
    have U103_ : own_T Z h103_ b102_ .int (2 : Int32) (own_up (fun _ => (0 : Int32)) (0 : Int32) (1 : Int32)) := own_T.set ⟨cl103_, Ar103_, Sz103_, Nn103_, Hh103_⟩ W103_ ⟨by decide, by decide⟩
    have K103_ := K102_.wr W103_ (Or.inr sz_b102_)
    have N103_ := Fr.snoc X103_ N0 ge_b102_
    refine own_fin st103_ ?_
    show own_Fin pP eE below _ (T103_.setTop (mkF mM 159 #[.val (.int p1), .val (.int p2), .val (.int p3), .val (.int p4), .val (.int (6 : Int32)), .val (.int ev), .val (.int tv), .val (.int (0 : Int32)), .val (.int (1 : Int32)), .val (.int (1 : Int32)), .val (.int (0 : Int32)), .val (.int (2 : Int32)), .val (.ref b102_), .val (.int (0 : Int32)), .unset, .unset, .unset, .unset, .unset, .unset, .unset, .unset, .unset, .unset] []))
    refine own_fin (b := T103_.setTop (mkF mM 172 #[.val (.int p1), .val (.int p2), .val (.int p3), .val (.int p4), .val (.int (6 : Int32)), .val (.int ev), .val (.int tv), .val (.int (0 : Int32)), .val (.int (1 : Int32)), .val (.int (1 : Int32)), .val (.int (0 : Int32)), .val (.int (2 : Int32)), .val (.ref b102_), .val (.int (1 : Int32)), .unset, .unset, .unset, .unset, .unset, .unset, .unset, .unset, .unset, .unset] [(.int (2 : Int32)), (.int (1 : Int32)), (.ref b102_)])) (fun tT kK => ?_) ?_
    · show Steps pP.tables eE below (T103_.setTop (mkF mM 159 #[.val (.int p1), .val (.int p2), .val (.int p3), .val (.int p4), .val (.int (6 : Int32)), .val (.int ev), .val (.int tv), .val (.int (0 : Int32)), .val (.int (1 : Int32)), .val (.int (1 : Int32)), .val (.int (0 : Int32)), .val (.int (2 : Int32)), .val (.ref b102_), .val (.int (0 : Int32)), .unset, .unset, .unset, .unset, .unset, .unset, .unset, .unset, .unset, .unset] [])) tT
      refine XS.iinc X103_.here hx rfl (Jvm.hb hby at_159) rfl (l' := #[.val (.int p1), .val (.int p2), .val (.int p3), .val (.int p4), .val (.int (6 : Int32)), .val (.int ev), .val (.int tv), .val (.int (0 : Int32)), .val (.int (1 : Int32)), .val (.int (1 : Int32)), .val (.int (0 : Int32)), .val (.int (2 : Int32)), .val (.ref b102_), .val (.int (1 : Int32)), .unset, .unset, .unset, .unset, .unset, .unset, .unset, .unset, .unset, .unset]) rfl ?_
      refine XS.iload X103_.here hx rfl (Jvm.hb hby at_162) rfl ?_
      refine XS.ifNo X103_.here hx rfl (Jvm.hb hby at_164) rfl ((if0 _ _).trans (feq ((by decide) : ¬ ((1 : Int32) = (0 : Int32)))).1) ?_
      refine XS.aload X103_.here hx rfl (Jvm.hb hby at_167) rfl rfl ?_
      refine XS.iload X103_.here hx rfl (Jvm.hb hby at_169) rfl ?_
      show Steps pP.tables eE below (T103_.setTop (mkF mM 171 #[.val (.int p1), .val (.int p2), .val (.int p3), .val (.int p4), .val (.int (6 : Int32)), .val (.int ev), .val (.int tv), .val (.int (0 : Int32)), .val (.int (1 : Int32)), .val (.int (1 : Int32)), .val (.int (0 : Int32)), .val (.int (2 : Int32)), .val (.ref b102_), .val (.int (1 : Int32)), .unset, .unset, .unset, .unset, .unset, .unset, .unset, .unset, .unset, .unset] [(.int (1 : Int32)), (.ref b102_)])) tT
      refine XS.iconst X103_.here hx rfl (Jvm.hb hby at_171) ?_
      exact kK
    obtain ⟨cl104_, Ar104_, Sz104_, Nn104_, Hh104_⟩ := id U103_
    have hin104_ : ¬ ((1 : Int32) < 0 ∨ cl104_.slots.size ≤ ((1 : Int32)).toNatClampNeg) := inb_of Sz104_ ⟨by decide, by decide⟩
    obtain ⟨T104_, h104_, X104_, e104_, W104_, st104_⟩ := stI X103_ hx hZ e103_ Ar104_ (j := (1 : Int32)) hin104_ (g := (mkF mM 172 #[.val (.int p1), .val (.int p2), .val (.int p3), .val (.int p4), .val (.int (6 : Int32)), .val (.int ev), .val (.int tv), .val (.int (0 : Int32)), .val (.int (1 : Int32)), .val (.int (1 : Int32)), .val (.int (0 : Int32)), .val (.int (2 : Int32)), .val (.ref b102_), .val (.int (1 : Int32)), .unset, .unset, .unset, .unset, .unset, .unset, .unset, .unset, .unset, .unset] [(.int (2 : Int32)), (.int (1 : Int32)), (.ref b102_)])) rfl rfl (Jvm.hb hby at_172)
    have U104_ : own_T Z h104_ b102_ .int (2 : Int32) (own_up (own_up (fun _ => (0 : Int32)) (0 : Int32) (1 : Int32)) (1 : Int32) (2 : Int32)) := own_T.set ⟨cl104_, Ar104_, Sz104_, Nn104_, Hh104_⟩ W104_ ⟨by decide, by decide⟩
    have K104_ := K103_.wr W104_ (Or.inr sz_b102_)
    have N104_ := Fr.snoc X104_ N103_ ge_b102_
    refine own_fin st104_ ?_
    show own_Fin pP eE below _ (T104_.setTop (mkF mM 173 #[.val (.int p1), .val (.int p2), .val (.int p3), .val (.int p4), .val (.int (6 : Int32)), .val (.int ev), .val (.int tv), .val (.int (0 : Int32)), .val (.int (1 : Int32)), .val (.int (1 : Int32)), .val (.int (0 : Int32)), .val (.int (2 : Int32)), .val (.ref b102_), .val (.int (1 : Int32)), .unset, .unset, .unset, .unset, .unset, .unset, .unset, .unset, .unset, .unset] []))
    refine own_fin (b := T104_.setTop (mkF mM 190 #[.val (.int p1), .val (.int p2), .val (.int p3), .val (.int p4), .val (.int (6 : Int32)), .val (.int ev), .val (.int tv), .val (.int (0 : Int32)), .val (.int (1 : Int32)), .val (.int (1 : Int32)), .val (.int (0 : Int32)), .val (.int (2 : Int32)), .val (.ref b102_), .val (.int (2 : Int32)), .unset, .unset, .unset, .unset, .unset, .unset, .unset, .unset, .unset, .unset] [])) (fun tT kK => ?_) ?_
    · show Steps pP.tables eE below (T104_.setTop (mkF mM 173 #[.val (.int p1), .val (.int p2), .val (.int p3), .val (.int p4), .val (.int (6 : Int32)), .val (.int ev), .val (.int tv), .val (.int (0 : Int32)), .val (.int (1 : Int32)), .val (.int (1 : Int32)), .val (.int (0 : Int32)), .val (.int (2 : Int32)), .val (.ref b102_), .val (.int (1 : Int32)), .unset, .unset, .unset, .unset, .unset, .unset, .unset, .unset, .unset, .unset] [])) tT
      refine XS.iinc X104_.here hx rfl (Jvm.hb hby at_173) rfl (l' := #[.val (.int p1), .val (.int p2), .val (.int p3), .val (.int p4), .val (.int (6 : Int32)), .val (.int ev), .val (.int tv), .val (.int (0 : Int32)), .val (.int (1 : Int32)), .val (.int (1 : Int32)), .val (.int (0 : Int32)), .val (.int (2 : Int32)), .val (.ref b102_), .val (.int (2 : Int32)), .unset, .unset, .unset, .unset, .unset, .unset, .unset, .unset, .unset, .unset]) rfl ?_
      refine XS.iload X104_.here hx rfl (Jvm.hb hby at_176) rfl ?_
      refine XS.ifYes X104_.here hx rfl (pc0 := 178) (pc' := 190) rfl (Jvm.hb hby at_178) rfl ((if0 _ _).trans (teq ((by decide) : (0 : Int32) = (0 : Int32))).1) (by decide) (by decide) ?_
      exact kK
    show own_Fin pP eE below _ (T104_.setTop (mkF mM 190 #[.val (.int p1), .val (.int p2), .val (.int p3), .val (.int p4), .val (.int (6 : Int32)), .val (.int ev), .val (.int tv), .val (.int (0 : Int32)), .val (.int (1 : Int32)), .val (.int (1 : Int32)), .val (.int (0 : Int32)), .val (.int (2 : Int32)), .val (.ref b102_), .val (.int (2 : Int32)), .unset, .unset, .unset, .unset, .unset, .unset, .unset, .unset, .unset, .unset] []))
    exact jp1_ (0 : Int32) (1 : Int32) (1 : Int32) (0 : Int32) (2 : Int32) b102_ (own_up (own_up (fun _ => (0 : Int32)) (0 : Int32) (1 : Int32)) (1 : Int32) (2 : Int32)) _ _ _ _ own_St6 ge_b102_ X104_ e104_ K104_ U104_ N104_
  · show own_Fin pP eE below _ (s₁.setTop (mkF mM 23 #[.val (.int p1), .val (.int p2), .val (.int p3), .val (.int p4), .val (.int (7 : Int32)), .val (.int ev), .val (.int tv), .unset, .unset, .unset, .unset, .unset, .unset, .unset, .unset, .unset, .unset, .unset, .unset, .unset, .unset, .unset, .unset, .unset] []))
    refine own_fin (b := s₁.setTop (mkF mM 127 #[.val (.int p1), .val (.int p2), .val (.int p3), .val (.int p4), .val (.int (7 : Int32)), .val (.int ev), .val (.int tv), .val (.int (1 : Int32)), .val (.int (1 : Int32)), .val (.int (1 : Int32)), .val (.int (0 : Int32)), .val (.int (3 : Int32)), .unset, .unset, .unset, .unset, .unset, .unset, .unset, .unset, .unset, .unset, .unset, .unset] [(.int (3 : Int32))])) (fun tT kK => ?_) ?_
    · show Steps pP.tables eE below (s₁.setTop (mkF mM 23 #[.val (.int p1), .val (.int p2), .val (.int p3), .val (.int p4), .val (.int (7 : Int32)), .val (.int ev), .val (.int tv), .unset, .unset, .unset, .unset, .unset, .unset, .unset, .unset, .unset, .unset, .unset, .unset, .unset, .unset, .unset, .unset, .unset] [])) tT
      refine XS.iload X0.here hx rfl (Jvm.hb hby at_23) rfl ?_
      refine XS.iconst X0.here hx rfl (Jvm.hb hby at_25) ?_
      refine XS.iand X0.here hx rfl (Jvm.hb hby at_26) rfl ?_
      refine XS.ifNo X0.here hx rfl (Jvm.hb hby at_27) rfl ((if0 _ _).trans (feq ((by decide) : ¬ ((1 : Int32) = (0 : Int32)))).1) ?_
      refine XS.iconst X0.here hx rfl (Jvm.hb hby at_30) ?_
      refine XS.goto X0.here hx rfl (pc0 := 31) (pc' := 35) rfl (Jvm.hb hby at_31) (by decide) (by decide) ?_
      show Steps pP.tables eE below (s₁.setTop (mkF mM 35 #[.val (.int p1), .val (.int p2), .val (.int p3), .val (.int p4), .val (.int (7 : Int32)), .val (.int ev), .val (.int tv), .unset, .unset, .unset, .unset, .unset, .unset, .unset, .unset, .unset, .unset, .unset, .unset, .unset, .unset, .unset, .unset, .unset] [(.int (1 : Int32))])) tT
      refine XS.istore X0.here hx rfl (Jvm.hb hby at_35) rfl (l' := #[.val (.int p1), .val (.int p2), .val (.int p3), .val (.int p4), .val (.int (7 : Int32)), .val (.int ev), .val (.int tv), .val (.int (1 : Int32)), .unset, .unset, .unset, .unset, .unset, .unset, .unset, .unset, .unset, .unset, .unset, .unset, .unset, .unset, .unset, .unset]) rfl ?_
      refine XS.iload X0.here hx rfl (Jvm.hb hby at_37) rfl ?_
      refine XS.iconst X0.here hx rfl (Jvm.hb hby at_39) ?_
      refine XS.iand X0.here hx rfl (Jvm.hb hby at_40) rfl ?_
      refine XS.ifNo X0.here hx rfl (Jvm.hb hby at_41) rfl ((if0 _ _).trans (feq ((by decide) : ¬ ((2 : Int32) = (0 : Int32)))).1) ?_
      refine XS.iconst X0.here hx rfl (Jvm.hb hby at_44) ?_
      show Steps pP.tables eE below (s₁.setTop (mkF mM 45 #[.val (.int p1), .val (.int p2), .val (.int p3), .val (.int p4), .val (.int (7 : Int32)), .val (.int ev), .val (.int tv), .val (.int (1 : Int32)), .unset, .unset, .unset, .unset, .unset, .unset, .unset, .unset, .unset, .unset, .unset, .unset, .unset, .unset, .unset, .unset] [(.int (1 : Int32))])) tT
      refine XS.goto X0.here hx rfl (pc0 := 45) (pc' := 49) rfl (Jvm.hb hby at_45) (by decide) (by decide) ?_
      refine XS.istore X0.here hx rfl (Jvm.hb hby at_49) rfl (l' := #[.val (.int p1), .val (.int p2), .val (.int p3), .val (.int p4), .val (.int (7 : Int32)), .val (.int ev), .val (.int tv), .val (.int (1 : Int32)), .val (.int (1 : Int32)), .unset, .unset, .unset, .unset, .unset, .unset, .unset, .unset, .unset, .unset, .unset, .unset, .unset, .unset, .unset]) rfl ?_
      refine XS.iload X0.here hx rfl (Jvm.hb hby at_51) rfl ?_
      refine XS.iconst X0.here hx rfl (Jvm.hb hby at_53) ?_
      refine XS.iand X0.here hx rfl (Jvm.hb hby at_54) rfl ?_
      refine XS.ifNo X0.here hx rfl (Jvm.hb hby at_55) rfl ((if0 _ _).trans (feq ((by decide) : ¬ ((4 : Int32) = (0 : Int32)))).1) ?_
      show Steps pP.tables eE below (s₁.setTop (mkF mM 58 #[.val (.int p1), .val (.int p2), .val (.int p3), .val (.int p4), .val (.int (7 : Int32)), .val (.int ev), .val (.int tv), .val (.int (1 : Int32)), .val (.int (1 : Int32)), .unset, .unset, .unset, .unset, .unset, .unset, .unset, .unset, .unset, .unset, .unset, .unset, .unset, .unset, .unset] [])) tT
      refine XS.iconst X0.here hx rfl (Jvm.hb hby at_58) ?_
      refine XS.goto X0.here hx rfl (pc0 := 59) (pc' := 63) rfl (Jvm.hb hby at_59) (by decide) (by decide) ?_
      refine XS.istore X0.here hx rfl (Jvm.hb hby at_63) rfl (l' := #[.val (.int p1), .val (.int p2), .val (.int p3), .val (.int p4), .val (.int (7 : Int32)), .val (.int ev), .val (.int tv), .val (.int (1 : Int32)), .val (.int (1 : Int32)), .val (.int (1 : Int32)), .unset, .unset, .unset, .unset, .unset, .unset, .unset, .unset, .unset, .unset, .unset, .unset, .unset, .unset]) rfl ?_
      refine XS.iload X0.here hx rfl (Jvm.hb hby at_65) rfl ?_
      refine XS.bipush X0.here hx rfl (Jvm.hb hby at_67) ?_
      refine XS.iand X0.here hx rfl (Jvm.hb hby at_69) rfl ?_
      show Steps pP.tables eE below (s₁.setTop (mkF mM 70 #[.val (.int p1), .val (.int p2), .val (.int p3), .val (.int p4), .val (.int (7 : Int32)), .val (.int ev), .val (.int tv), .val (.int (1 : Int32)), .val (.int (1 : Int32)), .val (.int (1 : Int32)), .unset, .unset, .unset, .unset, .unset, .unset, .unset, .unset, .unset, .unset, .unset, .unset, .unset, .unset] [(.int (0 : Int32))])) tT
      refine XS.ifYes X0.here hx rfl (pc0 := 70) (pc' := 77) rfl (Jvm.hb hby at_70) rfl ((if0 _ _).trans (teq ((by decide) : (0 : Int32) = (0 : Int32))).1) (by decide) (by decide) ?_
      refine XS.iconst X0.here hx rfl (Jvm.hb hby at_77) ?_
      refine XS.istore X0.here hx rfl (Jvm.hb hby at_78) rfl (l' := #[.val (.int p1), .val (.int p2), .val (.int p3), .val (.int p4), .val (.int (7 : Int32)), .val (.int ev), .val (.int tv), .val (.int (1 : Int32)), .val (.int (1 : Int32)), .val (.int (1 : Int32)), .val (.int (0 : Int32)), .unset, .unset, .unset, .unset, .unset, .unset, .unset, .unset, .unset, .unset, .unset, .unset, .unset]) rfl ?_
      refine XS.iload X0.here hx rfl (Jvm.hb hby at_80) rfl ?_
      refine XS.ifNo X0.here hx rfl (Jvm.hb hby at_82) rfl ((if0 _ _).trans (feq ((by decide) : ¬ ((1 : Int32) = (0 : Int32)))).1) ?_
      refine XS.iconst X0.here hx rfl (Jvm.hb hby at_85) ?_
      show Steps pP.tables eE below (s₁.setTop (mkF mM 86 #[.val (.int p1), .val (.int p2), .val (.int p3), .val (.int p4), .val (.int (7 : Int32)), .val (.int ev), .val (.int tv), .val (.int (1 : Int32)), .val (.int (1 : Int32)), .val (.int (1 : Int32)), .val (.int (0 : Int32)), .unset, .unset, .unset, .unset, .unset, .unset, .unset, .unset, .unset, .unset, .unset, .unset, .unset] [(.int (1 : Int32))])) tT
      refine XS.goto X0.here hx rfl (pc0 := 86) (pc' := 90) rfl (Jvm.hb hby at_86) (by decide) (by decide) ?_
      refine XS.iload X0.here hx rfl (Jvm.hb hby at_90) rfl ?_
      refine XS.ifNo X0.here hx rfl (Jvm.hb hby at_92) rfl ((if0 _ _).trans (feq ((by decide) : ¬ ((1 : Int32) = (0 : Int32)))).1) ?_
      refine XS.iconst X0.here hx rfl (Jvm.hb hby at_95) ?_
      refine XS.goto X0.here hx rfl (pc0 := 96) (pc' := 100) rfl (Jvm.hb hby at_96) (by decide) (by decide) ?_
      refine XS.iadd X0.here hx rfl (Jvm.hb hby at_100) rfl ?_
      show Steps pP.tables eE below (s₁.setTop (mkF mM 101 #[.val (.int p1), .val (.int p2), .val (.int p3), .val (.int p4), .val (.int (7 : Int32)), .val (.int ev), .val (.int tv), .val (.int (1 : Int32)), .val (.int (1 : Int32)), .val (.int (1 : Int32)), .val (.int (0 : Int32)), .unset, .unset, .unset, .unset, .unset, .unset, .unset, .unset, .unset, .unset, .unset, .unset, .unset] [(.int (2 : Int32))])) tT
      refine XS.iload X0.here hx rfl (Jvm.hb hby at_101) rfl ?_
      refine XS.ifNo X0.here hx rfl (Jvm.hb hby at_103) rfl ((if0 _ _).trans (feq ((by decide) : ¬ ((1 : Int32) = (0 : Int32)))).1) ?_
      refine XS.iconst X0.here hx rfl (Jvm.hb hby at_106) ?_
      refine XS.goto X0.here hx rfl (pc0 := 107) (pc' := 111) rfl (Jvm.hb hby at_107) (by decide) (by decide) ?_
      refine XS.iadd X0.here hx rfl (Jvm.hb hby at_111) rfl ?_
      refine XS.iload X0.here hx rfl (Jvm.hb hby at_112) rfl ?_
      show Steps pP.tables eE below (s₁.setTop (mkF mM 114 #[.val (.int p1), .val (.int p2), .val (.int p3), .val (.int p4), .val (.int (7 : Int32)), .val (.int ev), .val (.int tv), .val (.int (1 : Int32)), .val (.int (1 : Int32)), .val (.int (1 : Int32)), .val (.int (0 : Int32)), .unset, .unset, .unset, .unset, .unset, .unset, .unset, .unset, .unset, .unset, .unset, .unset, .unset] [(.int (0 : Int32)), (.int (3 : Int32))])) tT
      refine XS.ifYes X0.here hx rfl (pc0 := 114) (pc' := 121) rfl (Jvm.hb hby at_114) rfl ((if0 _ _).trans (teq ((by decide) : (0 : Int32) = (0 : Int32))).1) (by decide) (by decide) ?_
      refine XS.iconst X0.here hx rfl (Jvm.hb hby at_121) ?_
      refine XS.iadd X0.here hx rfl (Jvm.hb hby at_122) rfl ?_
      refine XS.istore X0.here hx rfl (Jvm.hb hby at_123) rfl (l' := #[.val (.int p1), .val (.int p2), .val (.int p3), .val (.int p4), .val (.int (7 : Int32)), .val (.int ev), .val (.int tv), .val (.int (1 : Int32)), .val (.int (1 : Int32)), .val (.int (1 : Int32)), .val (.int (0 : Int32)), .val (.int (3 : Int32)), .unset, .unset, .unset, .unset, .unset, .unset, .unset, .unset, .unset, .unset, .unset, .unset]) rfl ?_
      refine XS.iload X0.here hx rfl (Jvm.hb hby at_125) rfl ?_
      exact kK
    obtain ⟨T105_, h105_, k105_, X105_, e105_, E105_, A105_, st105_⟩ := newP X0 hx hZ (hw _ (List.mem_of_getElem? (i := 1) rfl)) e0 (g := (mkF mM 127 #[.val (.int p1), .val (.int p2), .val (.int p3), .val (.int p4), .val (.int (7 : Int32)), .val (.int ev), .val (.int tv), .val (.int (1 : Int32)), .val (.int (1 : Int32)), .val (.int (1 : Int32)), .val (.int (0 : Int32)), .val (.int (3 : Int32)), .unset, .unset, .unset, .unset, .unset, .unset, .unset, .unset, .unset, .unset, .unset, .unset] [(.int (3 : Int32))])) rfl (Jvm.hb hby at_127) rfl (by decide) (cap := 4) (by decide) (by decide) (by decide) (by decide)
    obtain ⟨b105_, g105_⟩ : ∃ z, z = h0.size := ⟨_, rfl⟩
    rw [← g105_] at A105_ st105_
    have sz_b105_ : h0.size ≤ b105_ := Nat.le_trans K0.1 (Nat.le_of_eq g105_.symm)
    have ge_b105_ : n0 ≤ b105_ := Nat.le_trans Z0 sz_b105_
    have K105_ := K0.ext E105_
    have V105_ : own_T Z h105_ b105_ .int (3 : Int32) (fun _ => (0 : Int32)) := own_T.new A105_ (by decide) rfl
    refine own_fin st105_ ?_
    show own_Fin pP eE below _ (T105_.setTop (mkF mM 129 #[.val (.int p1), .val (.int p2), .val (.int p3), .val (.int p4), .val (.int (7 : Int32)), .val (.int ev), .val (.int tv), .val (.int (1 : Int32)), .val (.int (1 : Int32)), .val (.int (1 : Int32)), .val (.int (0 : Int32)), .val (.int (3 : Int32)), .unset, .unset, .unset, .unset, .unset, .unset, .unset, .unset, .unset, .unset, .unset, .unset] [(.ref b105_)]))
    refine own_fin (b := T105_.setTop (mkF mM 144 #[.val (.int p1), .val (.int p2), .val (.int p3), .val (.int p4), .val (.int (7 : Int32)), .val (.int ev), .val (.int tv), .val (.int (1 : Int32)), .val (.int (1 : Int32)), .val (.int (1 : Int32)), .val (.int (0 : Int32)), .val (.int (3 : Int32)), .val (.ref b105_), .val (.int (0 : Int32)), .unset, .unset, .unset, .unset, .unset, .unset, .unset, .unset, .unset, .unset] [(.int (0 : Int32)), (.int (0 : Int32)), (.ref b105_)])) (fun tT kK => ?_) ?_
    · show Steps pP.tables eE below (T105_.setTop (mkF mM 129 #[.val (.int p1), .val (.int p2), .val (.int p3), .val (.int p4), .val (.int (7 : Int32)), .val (.int ev), .val (.int tv), .val (.int (1 : Int32)), .val (.int (1 : Int32)), .val (.int (1 : Int32)), .val (.int (0 : Int32)), .val (.int (3 : Int32)), .unset, .unset, .unset, .unset, .unset, .unset, .unset, .unset, .unset, .unset, .unset, .unset] [(.ref b105_)])) tT
      refine XS.astore X105_.here hx rfl (Jvm.hb hby at_129) rfl rfl (l' := #[.val (.int p1), .val (.int p2), .val (.int p3), .val (.int p4), .val (.int (7 : Int32)), .val (.int ev), .val (.int tv), .val (.int (1 : Int32)), .val (.int (1 : Int32)), .val (.int (1 : Int32)), .val (.int (0 : Int32)), .val (.int (3 : Int32)), .val (.ref b105_), .unset, .unset, .unset, .unset, .unset, .unset, .unset, .unset, .unset, .unset, .unset]) rfl ?_
      show Steps pP.tables eE below (T105_.setTop (mkF mM 131 #[.val (.int p1), .val (.int p2), .val (.int p3), .val (.int p4), .val (.int (7 : Int32)), .val (.int ev), .val (.int tv), .val (.int (1 : Int32)), .val (.int (1 : Int32)), .val (.int (1 : Int32)), .val (.int (0 : Int32)), .val (.int (3 : Int32)), .val (.ref b105_), .unset, .unset, .unset, .unset, .unset, .unset, .unset, .unset, .unset, .unset, .unset] [])) tT
      refine XS.iconst X105_.here hx rfl (Jvm.hb hby at_131) ?_
      refine XS.istore X105_.here hx rfl (Jvm.hb hby at_132) rfl (l' := #[.val (.int p1), .val (.int p2), .val (.int p3), .val (.int p4), .val (.int (7 : Int32)), .val (.int ev), .val (.int tv), .val (.int (1 : Int32)), .val (.int (1 : Int32)), .val (.int (1 : Int32)), .val (.int (0 : Int32)), .val (.int (3 : Int32)), .val (.ref b105_), .val (.int (0 : Int32)), .unset, .unset, .unset, .unset, .unset, .unset, .unset, .unset, .unset, .unset]) rfl ?_
      refine XS.iload X105_.here hx rfl (Jvm.hb hby at_134) rfl ?_
      refine XS.ifNo X105_.here hx rfl (Jvm.hb hby at_136) rfl ((if0 _ _).trans (feq ((by decide) : ¬ ((1 : Int32) = (0 : Int32)))).1) ?_
      refine XS.aload X105_.here hx rfl (Jvm.hb hby at_139) rfl rfl ?_
      refine XS.iload X105_.here hx rfl (Jvm.hb hby at_141) rfl ?_
      show Steps pP.tables eE below (T105_.setTop (mkF mM 143 #[.val (.int p1), .val (.int p2), .val (.int p3), .val (.int p4), .val (.int (7 : Int32)), .val (.int ev), .val (.int tv), .val (.int (1 : Int32)), .val (.int (1 : Int32)), .val (.int (1 : Int32)), .val (.int (0 : Int32)), .val (.int (3 : Int32)), .val (.ref b105_), .val (.int (0 : Int32)), .unset, .unset, .unset, .unset, .unset, .unset, .unset, .unset, .unset, .unset] [(.int (0 : Int32)), (.ref b105_)])) tT
      refine XS.iconst X105_.here hx rfl (Jvm.hb hby at_143) ?_
      exact kK
    obtain ⟨cl106_, Ar106_, Sz106_, Nn106_, Hh106_⟩ := id V105_
    have hin106_ : ¬ ((0 : Int32) < 0 ∨ cl106_.slots.size ≤ ((0 : Int32)).toNatClampNeg) := inb_of Sz106_ ⟨by decide, by decide⟩
    obtain ⟨T106_, h106_, X106_, e106_, W106_, st106_⟩ := stI X105_ hx hZ e105_ Ar106_ (j := (0 : Int32)) hin106_ (g := (mkF mM 144 #[.val (.int p1), .val (.int p2), .val (.int p3), .val (.int p4), .val (.int (7 : Int32)), .val (.int ev), .val (.int tv), .val (.int (1 : Int32)), .val (.int (1 : Int32)), .val (.int (1 : Int32)), .val (.int (0 : Int32)), .val (.int (3 : Int32)), .val (.ref b105_), .val (.int (0 : Int32)), .unset, .unset, .unset, .unset, .unset, .unset, .unset, .unset, .unset, .unset] [(.int (0 : Int32)), (.int (0 : Int32)), (.ref b105_)])) rfl rfl (Jvm.hb hby at_144)
    have U106_ : own_T Z h106_ b105_ .int (3 : Int32) (own_up (fun _ => (0 : Int32)) (0 : Int32) (0 : Int32)) := own_T.set ⟨cl106_, Ar106_, Sz106_, Nn106_, Hh106_⟩ W106_ ⟨by decide, by decide⟩
    have K106_ := K105_.wr W106_ (Or.inr sz_b105_)
    have N106_ := Fr.snoc X106_ N0 ge_b105_
    refine own_fin st106_ ?_
    show own_Fin pP eE below _ (T106_.setTop (mkF mM 145 #[.val (.int p1), .val (.int p2), .val (.int p3), .val (.int p4), .val (.int (7 : Int32)), .val (.int ev), .val (.int tv), .val (.int (1 : Int32)), .val (.int (1 : Int32)), .val (.int (1 : Int32)), .val (.int (0 : Int32)), .val (.int (3 : Int32)), .val (.ref b105_), .val (.int (0 : Int32)), .unset, .unset, .unset, .unset, .unset, .unset, .unset, .unset, .unset, .unset] []))
    refine own_fin (b := T106_.setTop (mkF mM 158 #[.val (.int p1), .val (.int p2), .val (.int p3), .val (.int p4), .val (.int (7 : Int32)), .val (.int ev), .val (.int tv), .val (.int (1 : Int32)), .val (.int (1 : Int32)), .val (.int (1 : Int32)), .val (.int (0 : Int32)), .val (.int (3 : Int32)), .val (.ref b105_), .val (.int (1 : Int32)), .unset, .unset, .unset, .unset, .unset, .unset, .unset, .unset, .unset, .unset] [(.int (1 : Int32)), (.int (1 : Int32)), (.ref b105_)])) (fun tT kK => ?_) ?_
    · show Steps pP.tables eE below (T106_.setTop (mkF mM 145 #[.val (.int p1), .val (.int p2), .val (.int p3), .val (.int p4), .val (.int (7 : Int32)), .val (.int ev), .val (.int tv), .val (.int (1 : Int32)), .val (.int (1 : Int32)), .val (.int (1 : Int32)), .val (.int (0 : Int32)), .val (.int (3 : Int32)), .val (.ref b105_), .val (.int (0 : Int32)), .unset, .unset, .unset, .unset, .unset, .unset, .unset, .unset, .unset, .unset] [])) tT
      refine XS.iinc X106_.here hx rfl (Jvm.hb hby at_145) rfl (l' := #[.val (.int p1), .val (.int p2), .val (.int p3), .val (.int p4), .val (.int (7 : Int32)), .val (.int ev), .val (.int tv), .val (.int (1 : Int32)), .val (.int (1 : Int32)), .val (.int (1 : Int32)), .val (.int (0 : Int32)), .val (.int (3 : Int32)), .val (.ref b105_), .val (.int (1 : Int32)), .unset, .unset, .unset, .unset, .unset, .unset, .unset, .unset, .unset, .unset]) rfl ?_
      refine XS.iload X106_.here hx rfl (Jvm.hb hby at_148) rfl ?_
      refine XS.ifNo X106_.here hx rfl (Jvm.hb hby at_150) rfl ((if0 _ _).trans (feq ((by decide) : ¬ ((1 : Int32) = (0 : Int32)))).1) ?_
      refine XS.aload X106_.here hx rfl (Jvm.hb hby at_153) rfl rfl ?_
      refine XS.iload X106_.here hx rfl (Jvm.hb hby at_155) rfl ?_
      show Steps pP.tables eE below (T106_.setTop (mkF mM 157 #[.val (.int p1), .val (.int p2), .val (.int p3), .val (.int p4), .val (.int (7 : Int32)), .val (.int ev), .val (.int tv), .val (.int (1 : Int32)), .val (.int (1 : Int32)), .val (.int (1 : Int32)), .val (.int (0 : Int32)), .val (.int (3 : Int32)), .val (.ref b105_), .val (.int (1 : Int32)), .unset, .unset, .unset, .unset, .unset, .unset, .unset, .unset, .unset, .unset] [(.int (1 : Int32)), (.ref b105_)])) tT
      refine XS.iconst X106_.here hx rfl (Jvm.hb hby at_157) ?_
      exact kK
    obtain ⟨cl107_, Ar107_, Sz107_, Nn107_, Hh107_⟩ := id U106_
    have hin107_ : ¬ ((1 : Int32) < 0 ∨ cl107_.slots.size ≤ ((1 : Int32)).toNatClampNeg) := inb_of Sz107_ ⟨by decide, by decide⟩
    obtain ⟨T107_, h107_, X107_, e107_, W107_, st107_⟩ := stI X106_ hx hZ e106_ Ar107_ (j := (1 : Int32)) hin107_ (g := (mkF mM 158 #[.val (.int p1), .val (.int p2), .val (.int p3), .val (.int p4), .val (.int (7 : Int32)), .val (.int ev), .val (.int tv), .val (.int (1 : Int32)), .val (.int (1 : Int32)), .val (.int (1 : Int32)), .val (.int (0 : Int32)), .val (.int (3 : Int32)), .val (.ref b105_), .val (.int (1 : Int32)), .unset, .unset, .unset, .unset, .unset, .unset, .unset, .unset, .unset, .unset] [(.int (1 : Int32)), (.int (1 : Int32)), (.ref b105_)])) rfl rfl (Jvm.hb hby at_158)
    have U107_ : own_T Z h107_ b105_ .int (3 : Int32) (own_up (own_up (fun _ => (0 : Int32)) (0 : Int32) (0 : Int32)) (1 : Int32) (1 : Int32)) := own_T.set ⟨cl107_, Ar107_, Sz107_, Nn107_, Hh107_⟩ W107_ ⟨by decide, by decide⟩
    have K107_ := K106_.wr W107_ (Or.inr sz_b105_)
    have N107_ := Fr.snoc X107_ N106_ ge_b105_
    refine own_fin st107_ ?_
    show own_Fin pP eE below _ (T107_.setTop (mkF mM 159 #[.val (.int p1), .val (.int p2), .val (.int p3), .val (.int p4), .val (.int (7 : Int32)), .val (.int ev), .val (.int tv), .val (.int (1 : Int32)), .val (.int (1 : Int32)), .val (.int (1 : Int32)), .val (.int (0 : Int32)), .val (.int (3 : Int32)), .val (.ref b105_), .val (.int (1 : Int32)), .unset, .unset, .unset, .unset, .unset, .unset, .unset, .unset, .unset, .unset] []))
    refine own_fin (b := T107_.setTop (mkF mM 172 #[.val (.int p1), .val (.int p2), .val (.int p3), .val (.int p4), .val (.int (7 : Int32)), .val (.int ev), .val (.int tv), .val (.int (1 : Int32)), .val (.int (1 : Int32)), .val (.int (1 : Int32)), .val (.int (0 : Int32)), .val (.int (3 : Int32)), .val (.ref b105_), .val (.int (2 : Int32)), .unset, .unset, .unset, .unset, .unset, .unset, .unset, .unset, .unset, .unset] [(.int (2 : Int32)), (.int (2 : Int32)), (.ref b105_)])) (fun tT kK => ?_) ?_
    · show Steps pP.tables eE below (T107_.setTop (mkF mM 159 #[.val (.int p1), .val (.int p2), .val (.int p3), .val (.int p4), .val (.int (7 : Int32)), .val (.int ev), .val (.int tv), .val (.int (1 : Int32)), .val (.int (1 : Int32)), .val (.int (1 : Int32)), .val (.int (0 : Int32)), .val (.int (3 : Int32)), .val (.ref b105_), .val (.int (1 : Int32)), .unset, .unset, .unset, .unset, .unset, .unset, .unset, .unset, .unset, .unset] [])) tT
      refine XS.iinc X107_.here hx rfl (Jvm.hb hby at_159) rfl (l' := #[.val (.int p1), .val (.int p2), .val (.int p3), .val (.int p4), .val (.int (7 : Int32)), .val (.int ev), .val (.int tv), .val (.int (1 : Int32)), .val (.int (1 : Int32)), .val (.int (1 : Int32)), .val (.int (0 : Int32)), .val (.int (3 : Int32)), .val (.ref b105_), .val (.int (2 : Int32)), .unset, .unset, .unset, .unset, .unset, .unset, .unset, .unset, .unset, .unset]) rfl ?_
      refine XS.iload X107_.here hx rfl (Jvm.hb hby at_162) rfl ?_
      refine XS.ifNo X107_.here hx rfl (Jvm.hb hby at_164) rfl ((if0 _ _).trans (feq ((by decide) : ¬ ((1 : Int32) = (0 : Int32)))).1) ?_
      refine XS.aload X107_.here hx rfl (Jvm.hb hby at_167) rfl rfl ?_
      refine XS.iload X107_.here hx rfl (Jvm.hb hby at_169) rfl ?_
      show Steps pP.tables eE below (T107_.setTop (mkF mM 171 #[.val (.int p1), .val (.int p2), .val (.int p3), .val (.int p4), .val (.int (7 : Int32)), .val (.int ev), .val (.int tv), .val (.int (1 : Int32)), .val (.int (1 : Int32)), .val (.int (1 : Int32)), .val (.int (0 : Int32)), .val (.int (3 : Int32)), .val (.ref b105_), .val (.int (2 : Int32)), .unset, .unset, .unset, .unset, .unset, .unset, .unset, .unset, .unset, .unset] [(.int (2 : Int32)), (.ref b105_)])) tT
      refine XS.iconst X107_.here hx rfl (Jvm.hb hby at_171) ?_
      exact kK
    obtain ⟨cl108_, Ar108_, Sz108_, Nn108_, Hh108_⟩ := id U107_
    have hin108_ : ¬ ((2 : Int32) < 0 ∨ cl108_.slots.size ≤ ((2 : Int32)).toNatClampNeg) := inb_of Sz108_ ⟨by decide, by decide⟩
    obtain ⟨T108_, h108_, X108_, e108_, W108_, st108_⟩ := stI X107_ hx hZ e107_ Ar108_ (j := (2 : Int32)) hin108_ (g := (mkF mM 172 #[.val (.int p1), .val (.int p2), .val (.int p3), .val (.int p4), .val (.int (7 : Int32)), .val (.int ev), .val (.int tv), .val (.int (1 : Int32)), .val (.int (1 : Int32)), .val (.int (1 : Int32)), .val (.int (0 : Int32)), .val (.int (3 : Int32)), .val (.ref b105_), .val (.int (2 : Int32)), .unset, .unset, .unset, .unset, .unset, .unset, .unset, .unset, .unset, .unset] [(.int (2 : Int32)), (.int (2 : Int32)), (.ref b105_)])) rfl rfl (Jvm.hb hby at_172)
    have U108_ : own_T Z h108_ b105_ .int (3 : Int32) (own_up (own_up (own_up (fun _ => (0 : Int32)) (0 : Int32) (0 : Int32)) (1 : Int32) (1 : Int32)) (2 : Int32) (2 : Int32)) := own_T.set ⟨cl108_, Ar108_, Sz108_, Nn108_, Hh108_⟩ W108_ ⟨by decide, by decide⟩
    have K108_ := K107_.wr W108_ (Or.inr sz_b105_)
    have N108_ := Fr.snoc X108_ N107_ ge_b105_
    refine own_fin st108_ ?_
    show own_Fin pP eE below _ (T108_.setTop (mkF mM 173 #[.val (.int p1), .val (.int p2), .val (.int p3), .val (.int p4), .val (.int (7 : Int32)), .val (.int ev), .val (.int tv), .val (.int (1 : Int32)), .val (.int (1 : Int32)), .val (.int (1 : Int32)), .val (.int (0 : Int32)), .val (.int (3 : Int32)), .val (.ref b105_), .val (.int (2 : Int32)), .unset, .unset, .unset, .unset, .unset, .unset, .unset, .unset, .unset, .unset] []))
    refine own_fin (b := T108_.setTop (mkF mM 190 #[.val (.int p1), .val (.int p2), .val (.int p3), .val (.int p4), .val (.int (7 : Int32)), .val (.int ev), .val (.int tv), .val (.int (1 : Int32)), .val (.int (1 : Int32)), .val (.int (1 : Int32)), .val (.int (0 : Int32)), .val (.int (3 : Int32)), .val (.ref b105_), .val (.int (3 : Int32)), .unset, .unset, .unset, .unset, .unset, .unset, .unset, .unset, .unset, .unset] [])) (fun tT kK => ?_) ?_
    · show Steps pP.tables eE below (T108_.setTop (mkF mM 173 #[.val (.int p1), .val (.int p2), .val (.int p3), .val (.int p4), .val (.int (7 : Int32)), .val (.int ev), .val (.int tv), .val (.int (1 : Int32)), .val (.int (1 : Int32)), .val (.int (1 : Int32)), .val (.int (0 : Int32)), .val (.int (3 : Int32)), .val (.ref b105_), .val (.int (2 : Int32)), .unset, .unset, .unset, .unset, .unset, .unset, .unset, .unset, .unset, .unset] [])) tT
      refine XS.iinc X108_.here hx rfl (Jvm.hb hby at_173) rfl (l' := #[.val (.int p1), .val (.int p2), .val (.int p3), .val (.int p4), .val (.int (7 : Int32)), .val (.int ev), .val (.int tv), .val (.int (1 : Int32)), .val (.int (1 : Int32)), .val (.int (1 : Int32)), .val (.int (0 : Int32)), .val (.int (3 : Int32)), .val (.ref b105_), .val (.int (3 : Int32)), .unset, .unset, .unset, .unset, .unset, .unset, .unset, .unset, .unset, .unset]) rfl ?_
      refine XS.iload X108_.here hx rfl (Jvm.hb hby at_176) rfl ?_
      refine XS.ifYes X108_.here hx rfl (pc0 := 178) (pc' := 190) rfl (Jvm.hb hby at_178) rfl ((if0 _ _).trans (teq ((by decide) : (0 : Int32) = (0 : Int32))).1) (by decide) (by decide) ?_
      exact kK
    show own_Fin pP eE below _ (T108_.setTop (mkF mM 190 #[.val (.int p1), .val (.int p2), .val (.int p3), .val (.int p4), .val (.int (7 : Int32)), .val (.int ev), .val (.int tv), .val (.int (1 : Int32)), .val (.int (1 : Int32)), .val (.int (1 : Int32)), .val (.int (0 : Int32)), .val (.int (3 : Int32)), .val (.ref b105_), .val (.int (3 : Int32)), .unset, .unset, .unset, .unset, .unset, .unset, .unset, .unset, .unset, .unset] []))
    exact jp1_ (1 : Int32) (1 : Int32) (1 : Int32) (0 : Int32) (3 : Int32) b105_ (own_up (own_up (own_up (fun _ => (0 : Int32)) (0 : Int32) (0 : Int32)) (1 : Int32) (1 : Int32)) (2 : Int32) (2 : Int32)) _ _ _ _ own_St7 ge_b105_ X108_ e108_ K108_ U108_ N108_
  · show own_Fin pP eE below _ (s₁.setTop (mkF mM 23 #[.val (.int p1), .val (.int p2), .val (.int p3), .val (.int p4), .val (.int (8 : Int32)), .val (.int ev), .val (.int tv), .unset, .unset, .unset, .unset, .unset, .unset, .unset, .unset, .unset, .unset, .unset, .unset, .unset, .unset, .unset, .unset, .unset] []))
    refine own_fin (b := s₁.setTop (mkF mM 127 #[.val (.int p1), .val (.int p2), .val (.int p3), .val (.int p4), .val (.int (8 : Int32)), .val (.int ev), .val (.int tv), .val (.int (0 : Int32)), .val (.int (0 : Int32)), .val (.int (0 : Int32)), .val (.int (1 : Int32)), .val (.int (1 : Int32)), .unset, .unset, .unset, .unset, .unset, .unset, .unset, .unset, .unset, .unset, .unset, .unset] [(.int (1 : Int32))])) (fun tT kK => ?_) ?_
    · show Steps pP.tables eE below (s₁.setTop (mkF mM 23 #[.val (.int p1), .val (.int p2), .val (.int p3), .val (.int p4), .val (.int (8 : Int32)), .val (.int ev), .val (.int tv), .unset, .unset, .unset, .unset, .unset, .unset, .unset, .unset, .unset, .unset, .unset, .unset, .unset, .unset, .unset, .unset, .unset] [])) tT
      refine XS.iload X0.here hx rfl (Jvm.hb hby at_23) rfl ?_
      refine XS.iconst X0.here hx rfl (Jvm.hb hby at_25) ?_
      refine XS.iand X0.here hx rfl (Jvm.hb hby at_26) rfl ?_
      refine XS.ifYes X0.here hx rfl (pc0 := 27) (pc' := 34) rfl (Jvm.hb hby at_27) rfl ((if0 _ _).trans (teq ((by decide) : (0 : Int32) = (0 : Int32))).1) (by decide) (by decide) ?_
      refine XS.iconst X0.here hx rfl (Jvm.hb hby at_34) ?_
      refine XS.istore X0.here hx rfl (Jvm.hb hby at_35) rfl (l' := #[.val (.int p1), .val (.int p2), .val (.int p3), .val (.int p4), .val (.int (8 : Int32)), .val (.int ev), .val (.int tv), .val (.int (0 : Int32)), .unset, .unset, .unset, .unset, .unset, .unset, .unset, .unset, .unset, .unset, .unset, .unset, .unset, .unset, .unset, .unset]) rfl ?_
      show Steps pP.tables eE below (s₁.setTop (mkF mM 37 #[.val (.int p1), .val (.int p2), .val (.int p3), .val (.int p4), .val (.int (8 : Int32)), .val (.int ev), .val (.int tv), .val (.int (0 : Int32)), .unset, .unset, .unset, .unset, .unset, .unset, .unset, .unset, .unset, .unset, .unset, .unset, .unset, .unset, .unset, .unset] [])) tT
      refine XS.iload X0.here hx rfl (Jvm.hb hby at_37) rfl ?_
      refine XS.iconst X0.here hx rfl (Jvm.hb hby at_39) ?_
      refine XS.iand X0.here hx rfl (Jvm.hb hby at_40) rfl ?_
      refine XS.ifYes X0.here hx rfl (pc0 := 41) (pc' := 48) rfl (Jvm.hb hby at_41) rfl ((if0 _ _).trans (teq ((by decide) : (0 : Int32) = (0 : Int32))).1) (by decide) (by decide) ?_
      refine XS.iconst X0.here hx rfl (Jvm.hb hby at_48) ?_
      refine XS.istore X0.here hx rfl (Jvm.hb hby at_49) rfl (l' := #[.val (.int p1), .val (.int p2), .val (.int p3), .val (.int p4), .val (.int (8 : Int32)), .val (.int ev), .val (.int tv), .val (.int (0 : Int32)), .val (.int (0 : Int32)), .unset, .unset, .unset, .unset, .unset, .unset, .unset, .unset, .unset, .unset, .unset, .unset, .unset, .unset, .unset]) rfl ?_
      show Steps pP.tables eE below (s₁.setTop (mkF mM 51 #[.val (.int p1), .val (.int p2), .val (.int p3), .val (.int p4), .val (.int (8 : Int32)), .val (.int ev), .val (.int tv), .val (.int (0 : Int32)), .val (.int (0 : Int32)), .unset, .unset, .unset, .unset, .unset, .unset, .unset, .unset, .unset, .unset, .unset, .unset, .unset, .unset, .unset] [])) tT
      refine XS.iload X0.here hx rfl (Jvm.hb hby at_51) rfl ?_
      refine XS.iconst X0.here hx rfl (Jvm.hb hby at_53) ?_
      refine XS.iand X0.here hx rfl (Jvm.hb hby at_54) rfl ?_
      refine XS.ifYes X0.here hx rfl (pc0 := 55) (pc' := 62) rfl (Jvm.hb hby at_55) rfl ((if0 _ _).trans (teq ((by decide) : (0 : Int32) = (0 : Int32))).1) (by decide) (by decide) ?_
      refine XS.iconst X0.here hx rfl (Jvm.hb hby at_62) ?_
      refine XS.istore X0.here hx rfl (Jvm.hb hby at_63) rfl (l' := #[.val (.int p1), .val (.int p2), .val (.int p3), .val (.int p4), .val (.int (8 : Int32)), .val (.int ev), .val (.int tv), .val (.int (0 : Int32)), .val (.int (0 : Int32)), .val (.int (0 : Int32)), .unset, .unset, .unset, .unset, .unset, .unset, .unset, .unset, .unset, .unset, .unset, .unset, .unset, .unset]) rfl ?_
      show Steps pP.tables eE below (s₁.setTop (mkF mM 65 #[.val (.int p1), .val (.int p2), .val (.int p3), .val (.int p4), .val (.int (8 : Int32)), .val (.int ev), .val (.int tv), .val (.int (0 : Int32)), .val (.int (0 : Int32)), .val (.int (0 : Int32)), .unset, .unset, .unset, .unset, .unset, .unset, .unset, .unset, .unset, .unset, .unset, .unset, .unset, .unset] [])) tT
      refine XS.iload X0.here hx rfl (Jvm.hb hby at_65) rfl ?_
      refine XS.bipush X0.here hx rfl (Jvm.hb hby at_67) ?_
      refine XS.iand X0.here hx rfl (Jvm.hb hby at_69) rfl ?_
      refine XS.ifNo X0.here hx rfl (Jvm.hb hby at_70) rfl ((if0 _ _).trans (feq ((by decide) : ¬ ((8 : Int32) = (0 : Int32)))).1) ?_
      refine XS.iconst X0.here hx rfl (Jvm.hb hby at_73) ?_
      refine XS.goto X0.here hx rfl (pc0 := 74) (pc' := 78) rfl (Jvm.hb hby at_74) (by decide) (by decide) ?_
      show Steps pP.tables eE below (s₁.setTop (mkF mM 78 #[.val (.int p1), .val (.int p2), .val (.int p3), .val (.int p4), .val (.int (8 : Int32)), .val (.int ev), .val (.int tv), .val (.int (0 : Int32)), .val (.int (0 : Int32)), .val (.int (0 : Int32)), .unset, .unset, .unset, .unset, .unset, .unset, .unset, .unset, .unset, .unset, .unset, .unset, .unset, .unset] [(.int (1 : Int32))])) tT
      refine XS.istore X0.here hx rfl (Jvm.hb hby at_78) rfl (l' := #[.val (.int p1), .val (.int p2), .val (.int p3), .val (.int p4), .val (.int (8 : Int32)), .val (.int ev), .val (.int tv), .val (.int (0 : Int32)), .val (.int (0 : Int32)), .val (.int (0 : Int32)), .val (.int (1 : Int32)), .unset, .unset, .unset, .unset, .unset, .unset, .unset, .unset, .unset, .unset, .unset, .unset, .unset]) rfl ?_
      refine XS.iload X0.here hx rfl (Jvm.hb hby at_80) rfl ?_
      refine XS.ifYes X0.here hx rfl (pc0 := 82) (pc' := 89) rfl (Jvm.hb hby at_82) rfl ((if0 _ _).trans (teq ((by decide) : (0 : Int32) = (0 : Int32))).1) (by decide) (by decide) ?_
      refine XS.iconst X0.here hx rfl (Jvm.hb hby at_89) ?_
      refine XS.iload X0.here hx rfl (Jvm.hb hby at_90) rfl ?_
      refine XS.ifYes X0.here hx rfl (pc0 := 92) (pc' := 99) rfl (Jvm.hb hby at_92) rfl ((if0 _ _).trans (teq ((by decide) : (0 : Int32) = (0 : Int32))).1) (by decide) (by decide) ?_
      show Steps pP.tables eE below (s₁.setTop (mkF mM 99 #[.val (.int p1), .val (.int p2), .val (.int p3), .val (.int p4), .val (.int (8 : Int32)), .val (.int ev), .val (.int tv), .val (.int (0 : Int32)), .val (.int (0 : Int32)), .val (.int (0 : Int32)), .val (.int (1 : Int32)), .unset, .unset, .unset, .unset, .unset, .unset, .unset, .unset, .unset, .unset, .unset, .unset, .unset] [(.int (0 : Int32))])) tT
      refine XS.iconst X0.here hx rfl (Jvm.hb hby at_99) ?_
      refine XS.iadd X0.here hx rfl (Jvm.hb hby at_100) rfl ?_
      refine XS.iload X0.here hx rfl (Jvm.hb hby at_101) rfl ?_
      refine XS.ifYes X0.here hx rfl (pc0 := 103) (pc' := 110) rfl (Jvm.hb hby at_103) rfl ((if0 _ _).trans (teq ((by decide) : (0 : Int32) = (0 : Int32))).1) (by decide) (by decide) ?_
      refine XS.iconst X0.here hx rfl (Jvm.hb hby at_110) ?_
      refine XS.iadd X0.here hx rfl (Jvm.hb hby at_111) rfl ?_
      show Steps pP.tables eE below (s₁.setTop (mkF mM 112 #[.val (.int p1), .val (.int p2), .val (.int p3), .val (.int p4), .val (.int (8 : Int32)), .val (.int ev), .val (.int tv), .val (.int (0 : Int32)), .val (.int (0 : Int32)), .val (.int (0 : Int32)), .val (.int (1 : Int32)), .unset, .unset, .unset, .unset, .unset, .unset, .unset, .unset, .unset, .unset, .unset, .unset, .unset] [(.int (0 : Int32))])) tT
      refine XS.iload X0.here hx rfl (Jvm.hb hby at_112) rfl ?_
      refine XS.ifNo X0.here hx rfl (Jvm.hb hby at_114) rfl ((if0 _ _).trans (feq ((by decide) : ¬ ((1 : Int32) = (0 : Int32)))).1) ?_
      refine XS.iconst X0.here hx rfl (Jvm.hb hby at_117) ?_
      refine XS.goto X0.here hx rfl (pc0 := 118) (pc' := 122) rfl (Jvm.hb hby at_118) (by decide) (by decide) ?_
      refine XS.iadd X0.here hx rfl (Jvm.hb hby at_122) rfl ?_
      refine XS.istore X0.here hx rfl (Jvm.hb hby at_123) rfl (l' := #[.val (.int p1), .val (.int p2), .val (.int p3), .val (.int p4), .val (.int (8 : Int32)), .val (.int ev), .val (.int tv), .val (.int (0 : Int32)), .val (.int (0 : Int32)), .val (.int (0 : Int32)), .val (.int (1 : Int32)), .val (.int (1 : Int32)), .unset, .unset, .unset, .unset, .unset, .unset, .unset, .unset, .unset, .unset, .unset, .unset]) rfl ?_
      show Steps pP.tables eE below (s₁.setTop (mkF mM 125 #[.val (.int p1), .val (.int p2), .val (.int p3), .val (.int p4), .val (.int (8 : Int32)), .val (.int ev), .val (.int tv), .val (.int (0 : Int32)), .val (.int (0 : Int32)), .val (.int (0 : Int32)), .val (.int (1 : Int32)), .val (.int (1 : Int32)), .unset, .unset, .unset, .unset, .unset, .unset, .unset, .unset, .unset, .unset, .unset, .unset] [])) tT
      refine XS.iload X0.here hx rfl (Jvm.hb hby at_125) rfl ?_
      exact kK
    obtain ⟨T109_, h109_, k109_, X109_, e109_, E109_, A109_, st109_⟩ := newP X0 hx hZ (hw _ (List.mem_of_getElem? (i := 1) rfl)) e0 (g := (mkF mM 127 #[.val (.int p1), .val (.int p2), .val (.int p3), .val (.int p4), .val (.int (8 : Int32)), .val (.int ev), .val (.int tv), .val (.int (0 : Int32)), .val (.int (0 : Int32)), .val (.int (0 : Int32)), .val (.int (1 : Int32)), .val (.int (1 : Int32)), .unset, .unset, .unset, .unset, .unset, .unset, .unset, .unset, .unset, .unset, .unset, .unset] [(.int (1 : Int32))])) rfl (Jvm.hb hby at_127) rfl (by decide) (cap := 4) (by decide) (by decide) (by decide) (by decide)
    obtain ⟨b109_, g109_⟩ : ∃ z, z = h0.size := ⟨_, rfl⟩
    rw [← g109_] at A109_ st109_
    have sz_b109_ : h0.size ≤ b109_ := Nat.le_trans K0.1 (Nat.le_of_eq g109_.symm)
    have ge_b109_ : n0 ≤ b109_ := Nat.le_trans Z0 sz_b109_
    have K109_ := K0.ext E109_
    have V109_ : own_T Z h109_ b109_ .int (1 : Int32) (fun _ => (0 : Int32)) := own_T.new A109_ (by decide) rfl
    refine own_fin st109_ ?_
    show own_Fin pP eE below _ (T109_.setTop (mkF mM 129 #[.val (.int p1), .val (.int p2), .val (.int p3), .val (.int p4), .val (.int (8 : Int32)), .val (.int ev), .val (.int tv), .val (.int (0 : Int32)), .val (.int (0 : Int32)), .val (.int (0 : Int32)), .val (.int (1 : Int32)), .val (.int (1 : Int32)), .unset, .unset, .unset, .unset, .unset, .unset, .unset, .unset, .unset, .unset, .unset, .unset] [(.ref b109_)]))
    refine own_fin (b := T109_.setTop (mkF mM 186 #[.val (.int p1), .val (.int p2), .val (.int p3), .val (.int p4), .val (.int (8 : Int32)), .val (.int ev), .val (.int tv), .val (.int (0 : Int32)), .val (.int (0 : Int32)), .val (.int (0 : Int32)), .val (.int (1 : Int32)), .val (.int (1 : Int32)), .val (.ref b109_), .val (.int (0 : Int32)), .unset, .unset, .unset, .unset, .unset, .unset, .unset, .unset, .unset, .unset] [(.int (3 : Int32)), (.int (0 : Int32)), (.ref b109_)])) (fun tT kK => ?_) ?_
    · show Steps pP.tables eE below (T109_.setTop (mkF mM 129 #[.val (.int p1), .val (.int p2), .val (.int p3), .val (.int p4), .val (.int (8 : Int32)), .val (.int ev), .val (.int tv), .val (.int (0 : Int32)), .val (.int (0 : Int32)), .val (.int (0 : Int32)), .val (.int (1 : Int32)), .val (.int (1 : Int32)), .unset, .unset, .unset, .unset, .unset, .unset, .unset, .unset, .unset, .unset, .unset, .unset] [(.ref b109_)])) tT
      refine XS.astore X109_.here hx rfl (Jvm.hb hby at_129) rfl rfl (l' := #[.val (.int p1), .val (.int p2), .val (.int p3), .val (.int p4), .val (.int (8 : Int32)), .val (.int ev), .val (.int tv), .val (.int (0 : Int32)), .val (.int (0 : Int32)), .val (.int (0 : Int32)), .val (.int (1 : Int32)), .val (.int (1 : Int32)), .val (.ref b109_), .unset, .unset, .unset, .unset, .unset, .unset, .unset, .unset, .unset, .unset, .unset]) rfl ?_
      refine XS.iconst X109_.here hx rfl (Jvm.hb hby at_131) ?_
      refine XS.istore X109_.here hx rfl (Jvm.hb hby at_132) rfl (l' := #[.val (.int p1), .val (.int p2), .val (.int p3), .val (.int p4), .val (.int (8 : Int32)), .val (.int ev), .val (.int tv), .val (.int (0 : Int32)), .val (.int (0 : Int32)), .val (.int (0 : Int32)), .val (.int (1 : Int32)), .val (.int (1 : Int32)), .val (.ref b109_), .val (.int (0 : Int32)), .unset, .unset, .unset, .unset, .unset, .unset, .unset, .unset, .unset, .unset]) rfl ?_
      refine XS.iload X109_.here hx rfl (Jvm.hb hby at_134) rfl ?_
      refine XS.ifYes X109_.here hx rfl (pc0 := 136) (pc' := 148) rfl (Jvm.hb hby at_136) rfl ((if0 _ _).trans (teq ((by decide) : (0 : Int32) = (0 : Int32))).1) (by decide) (by decide) ?_
      show Steps pP.tables eE below (T109_.setTop (mkF mM 148 #[.val (.int p1), .val (.int p2), .val (.int p3), .val (.int p4), .val (.int (8 : Int32)), .val (.int ev), .val (.int tv), .val (.int (0 : Int32)), .val (.int (0 : Int32)), .val (.int (0 : Int32)), .val (.int (1 : Int32)), .val (.int (1 : Int32)), .val (.ref b109_), .val (.int (0 : Int32)), .unset, .unset, .unset, .unset, .unset, .unset, .unset, .unset, .unset, .unset] [])) tT
      refine XS.iload X109_.here hx rfl (Jvm.hb hby at_148) rfl ?_
      refine XS.ifYes X109_.here hx rfl (pc0 := 150) (pc' := 162) rfl (Jvm.hb hby at_150) rfl ((if0 _ _).trans (teq ((by decide) : (0 : Int32) = (0 : Int32))).1) (by decide) (by decide) ?_
      refine XS.iload X109_.here hx rfl (Jvm.hb hby at_162) rfl ?_
      refine XS.ifYes X109_.here hx rfl (pc0 := 164) (pc' := 176) rfl (Jvm.hb hby at_164) rfl ((if0 _ _).trans (teq ((by decide) : (0 : Int32) = (0 : Int32))).1) (by decide) (by decide) ?_
      refine XS.iload X109_.here hx rfl (Jvm.hb hby at_176) rfl ?_
      refine XS.ifNo X109_.here hx rfl (Jvm.hb hby at_178) rfl ((if0 _ _).trans (feq ((by decide) : ¬ ((1 : Int32) = (0 : Int32)))).1) ?_
      show Steps pP.tables eE below (T109_.setTop (mkF mM 181 #[.val (.int p1), .val (.int p2), .val (.int p3), .val (.int p4), .val (.int (8 : Int32)), .val (.int ev), .val (.int tv), .val (.int (0 : Int32)), .val (.int (0 : Int32)), .val (.int (0 : Int32)), .val (.int (1 : Int32)), .val (.int (1 : Int32)), .val (.ref b109_), .val (.int (0 : Int32)), .unset, .unset, .unset, .unset, .unset, .unset, .unset, .unset, .unset, .unset] [])) tT
      refine XS.aload X109_.here hx rfl (Jvm.hb hby at_181) rfl rfl ?_
      refine XS.iload X109_.here hx rfl (Jvm.hb hby at_183) rfl ?_
      refine XS.iconst X109_.here hx rfl (Jvm.hb hby at_185) ?_
      exact kK
    obtain ⟨cl110_, Ar110_, Sz110_, Nn110_, Hh110_⟩ := id V109_
    have hin110_ : ¬ ((0 : Int32) < 0 ∨ cl110_.slots.size ≤ ((0 : Int32)).toNatClampNeg) := inb_of Sz110_ ⟨by decide, by decide⟩
    obtain ⟨T110_, h110_, X110_, e110_, W110_, st110_⟩ := stI X109_ hx hZ e109_ Ar110_ (j := (0 : Int32)) hin110_ (g := (mkF mM 186 #[.val (.int p1), .val (.int p2), .val (.int p3), .val (.int p4), .val (.int (8 : Int32)), .val (.int ev), .val (.int tv), .val (.int (0 : Int32)), .val (.int (0 : Int32)), .val (.int (0 : Int32)), .val (.int (1 : Int32)), .val (.int (1 : Int32)), .val (.ref b109_), .val (.int (0 : Int32)), .unset, .unset, .unset, .unset, .unset, .unset, .unset, .unset, .unset, .unset] [(.int (3 : Int32)), (.int (0 : Int32)), (.ref b109_)])) rfl rfl (Jvm.hb hby at_186)
    have U110_ : own_T Z h110_ b109_ .int (1 : Int32) (own_up (fun _ => (0 : Int32)) (0 : Int32) (3 : Int32)) := own_T.set ⟨cl110_, Ar110_, Sz110_, Nn110_, Hh110_⟩ W110_ ⟨by decide, by decide⟩
    have K110_ := K109_.wr W110_ (Or.inr sz_b109_)
    have N110_ := Fr.snoc X110_ N0 ge_b109_
    refine own_fin st110_ ?_
    show own_Fin pP eE below _ (T110_.setTop (mkF mM 187 #[.val (.int p1), .val (.int p2), .val (.int p3), .val (.int p4), .val (.int (8 : Int32)), .val (.int ev), .val (.int tv), .val (.int (0 : Int32)), .val (.int (0 : Int32)), .val (.int (0 : Int32)), .val (.int (1 : Int32)), .val (.int (1 : Int32)), .val (.ref b109_), .val (.int (0 : Int32)), .unset, .unset, .unset, .unset, .unset, .unset, .unset, .unset, .unset, .unset] []))
    refine own_fin (b := T110_.setTop (mkF mM 190 #[.val (.int p1), .val (.int p2), .val (.int p3), .val (.int p4), .val (.int (8 : Int32)), .val (.int ev), .val (.int tv), .val (.int (0 : Int32)), .val (.int (0 : Int32)), .val (.int (0 : Int32)), .val (.int (1 : Int32)), .val (.int (1 : Int32)), .val (.ref b109_), .val (.int (1 : Int32)), .unset, .unset, .unset, .unset, .unset, .unset, .unset, .unset, .unset, .unset] [])) (fun tT kK => ?_) ?_
    · show Steps pP.tables eE below (T110_.setTop (mkF mM 187 #[.val (.int p1), .val (.int p2), .val (.int p3), .val (.int p4), .val (.int (8 : Int32)), .val (.int ev), .val (.int tv), .val (.int (0 : Int32)), .val (.int (0 : Int32)), .val (.int (0 : Int32)), .val (.int (1 : Int32)), .val (.int (1 : Int32)), .val (.ref b109_), .val (.int (0 : Int32)), .unset, .unset, .unset, .unset, .unset, .unset, .unset, .unset, .unset, .unset] [])) tT
      refine XS.iinc X110_.here hx rfl (Jvm.hb hby at_187) rfl (l' := #[.val (.int p1), .val (.int p2), .val (.int p3), .val (.int p4), .val (.int (8 : Int32)), .val (.int ev), .val (.int tv), .val (.int (0 : Int32)), .val (.int (0 : Int32)), .val (.int (0 : Int32)), .val (.int (1 : Int32)), .val (.int (1 : Int32)), .val (.ref b109_), .val (.int (1 : Int32)), .unset, .unset, .unset, .unset, .unset, .unset, .unset, .unset, .unset, .unset]) rfl ?_
      exact kK
    show own_Fin pP eE below _ (T110_.setTop (mkF mM 190 #[.val (.int p1), .val (.int p2), .val (.int p3), .val (.int p4), .val (.int (8 : Int32)), .val (.int ev), .val (.int tv), .val (.int (0 : Int32)), .val (.int (0 : Int32)), .val (.int (0 : Int32)), .val (.int (1 : Int32)), .val (.int (1 : Int32)), .val (.ref b109_), .val (.int (1 : Int32)), .unset, .unset, .unset, .unset, .unset, .unset, .unset, .unset, .unset, .unset] []))
    exact jp1_ (0 : Int32) (0 : Int32) (0 : Int32) (1 : Int32) (1 : Int32) b109_ (own_up (fun _ => (0 : Int32)) (0 : Int32) (3 : Int32)) _ _ _ _ own_St8 ge_b109_ X110_ e110_ K110_ U110_ N110_
  · show own_Fin pP eE below _ (s₁.setTop (mkF mM 23 #[.val (.int p1), .val (.int p2), .val (.int p3), .val (.int p4), .val (.int (9 : Int32)), .val (.int ev), .val (.int tv), .unset, .unset, .unset, .unset, .unset, .unset, .unset, .unset, .unset, .unset, .unset, .unset, .unset, .unset, .unset, .unset, .unset] []))
    refine own_fin (b := s₁.setTop (mkF mM 127 #[.val (.int p1), .val (.int p2), .val (.int p3), .val (.int p4), .val (.int (9 : Int32)), .val (.int ev), .val (.int tv), .val (.int (1 : Int32)), .val (.int (0 : Int32)), .val (.int (0 : Int32)), .val (.int (1 : Int32)), .val (.int (2 : Int32)), .unset, .unset, .unset, .unset, .unset, .unset, .unset, .unset, .unset, .unset, .unset, .unset] [(.int (2 : Int32))])) (fun tT kK => ?_) ?_
    · show Steps pP.tables eE below (s₁.setTop (mkF mM 23 #[.val (.int p1), .val (.int p2), .val (.int p3), .val (.int p4), .val (.int (9 : Int32)), .val (.int ev), .val (.int tv), .unset, .unset, .unset, .unset, .unset, .unset, .unset, .unset, .unset, .unset, .unset, .unset, .unset, .unset, .unset, .unset, .unset] [])) tT
      refine XS.iload X0.here hx rfl (Jvm.hb hby at_23) rfl ?_
      refine XS.iconst X0.here hx rfl (Jvm.hb hby at_25) ?_
      refine XS.iand X0.here hx rfl (Jvm.hb hby at_26) rfl ?_
      refine XS.ifNo X0.here hx rfl (Jvm.hb hby at_27) rfl ((if0 _ _).trans (feq ((by decide) : ¬ ((1 : Int32) = (0 : Int32)))).1) ?_
      refine XS.iconst X0.here hx rfl (Jvm.hb hby at_30) ?_
      refine XS.goto X0.here hx rfl (pc0 := 31) (pc' := 35) rfl (Jvm.hb hby at_31) (by decide) (by decide) ?_
      show Steps pP.tables eE below (s₁.setTop (mkF mM 35 #[.val (.int p1), .val (.int p2), .val (.int p3), .val (.int p4), .val (.int (9 : Int32)), .val (.int ev), .val (.int tv), .unset, .unset, .unset, .unset, .unset, .unset, .unset, .unset, .unset, .unset, .unset, .unset, .unset, .unset, .unset, .unset, .unset] [(.int (1 : Int32))])) tT
      refine XS.istore X0.here hx rfl (Jvm.hb hby at_35) rfl (l' := #[.val (.int p1), .val (.int p2), .val (.int p3), .val (.int p4), .val (.int (9 : Int32)), .val (.int ev), .val (.int tv), .val (.int (1 : Int32)), .unset, .unset, .unset, .unset, .unset, .unset, .unset, .unset, .unset, .unset, .unset, .unset, .unset, .unset, .unset, .unset]) rfl ?_
      refine XS.iload X0.here hx rfl (Jvm.hb hby at_37) rfl ?_
      refine XS.iconst X0.here hx rfl (Jvm.hb hby at_39) ?_
      refine XS.iand X0.here hx rfl (Jvm.hb hby at_40) rfl ?_
      refine XS.ifYes X0.here hx rfl (pc0 := 41) (pc' := 48) rfl (Jvm.hb hby at_41) rfl ((if0 _ _).trans (teq ((by decide) : (0 : Int32) = (0 : Int32))).1) (by decide) (by decide) ?_
      refine XS.iconst X0.here hx rfl (Jvm.hb hby at_48) ?_
      show Steps pP.tables eE below (s₁.setTop (mkF mM 49 #[.val (.int p1), .val (.int p2), .val (.int p3), .val (.int p4), .val (.int (9 : Int32)), .val (.int ev), .val (.int tv), .val (.int (1 : Int32)), .unset, .unset, .unset, .unset, .unset, .unset, .unset, .unset, .unset, .unset, .unset, .unset, .unset, .unset, .unset, .unset] [(.int (0 : Int32))])) tT
      refine XS.istore X0.here hx rfl (Jvm.hb hby at_49) rfl (l' := #[.val (.int p1), .val (.int p2), .val (.int p3), .val (.int p4), .val (.int (9 : Int32)), .val (.int ev), .val (.int tv), .val (.int (1 : Int32)), .val (.int (0 : Int32)), .unset, .unset, .unset, .unset, .unset, .unset, .unset, .unset, .unset, .unset, .unset, .unset, .unset, .unset, .unset]) rfl ?_
      refine XS.iload X0.here hx rfl (Jvm.hb hby at_51) rfl ?_
      refine XS.iconst X0.here hx rfl (Jvm.hb hby at_53) ?_
      refine XS.iand X0.here hx rfl (Jvm.hb hby at_54) rfl ?_
      refine XS.ifYes X0.here hx rfl (pc0 := 55) (pc' := 62) rfl (Jvm.hb hby at_55) rfl ((if0 _ _).trans (teq ((by decide) : (0 : Int32) = (0 : Int32))).1) (by decide) (by decide) ?_
      refine XS.iconst X0.here hx rfl (Jvm.hb hby at_62) ?_
      show Steps pP.tables eE below (s₁.setTop (mkF mM 63 #[.val (.int p1), .val (.int p2), .val (.int p3), .val (.int p4), .val (.int (9 : Int32)), .val (.int ev), .val (.int tv), .val (.int (1 : Int32)), .val (.int (0 : Int32)), .unset, .unset, .unset, .unset, .unset, .unset, .unset, .unset, .unset, .unset, .unset, .unset, .unset, .unset, .unset] [(.int (0 : Int32))])) tT
      refine XS.istore X0.here hx rfl (Jvm.hb hby at_63) rfl (l' := #[.val (.int p1), .val (.int p2), .val (.int p3), .val (.int p4), .val (.int (9 : Int32)), .val (.int ev), .val (.int tv), .val (.int (1 : Int32)), .val (.int (0 : Int32)), .val (.int (0 : Int32)), .unset, .unset, .unset, .unset, .unset, .unset, .unset, .unset, .unset, .unset, .unset, .unset, .unset, .unset]) rfl ?_
      refine XS.iload X0.here hx rfl (Jvm.hb hby at_65) rfl ?_
      refine XS.bipush X0.here hx rfl (Jvm.hb hby at_67) ?_
      refine XS.iand X0.here hx rfl (Jvm.hb hby at_69) rfl ?_
      refine XS.ifNo X0.here hx rfl (Jvm.hb hby at_70) rfl ((if0 _ _).trans (feq ((by decide) : ¬ ((8 : Int32) = (0 : Int32)))).1) ?_
      refine XS.iconst X0.here hx rfl (Jvm.hb hby at_73) ?_
      show Steps pP.tables eE below (s₁.setTop (mkF mM 74 #[.val (.int p1), .val (.int p2), .val (.int p3), .val (.int p4), .val (.int (9 : Int32)), .val (.int ev), .val (.int tv), .val (.int (1 : Int32)), .val (.int (0 : Int32)), .val (.int (0 : Int32)), .unset, .unset, .unset, .unset, .unset, .unset, .unset, .unset, .unset, .unset, .unset, .unset, .unset, .unset] [(.int (1 : Int32))])) tT
      refine XS.goto X0.here hx rfl (pc0 := 74) (pc' := 78) rfl (Jvm.hb hby at_74) (by decide) (by decide) ?_
      refine XS.istore X0.here hx rfl (Jvm.hb hby at_78) rfl (l' := #[.val (.int p1), .val (.int p2), .val (.int p3), .val (.int p4), .val (.int (9 : Int32)), .val (.int ev), .val (.int tv), .val (.int (1 : Int32)), .val (.int (0 : Int32)), .val (.int (0 : Int32)), .val (.int (1 : Int32)), .unset, .unset, .unset, .unset, .unset, .unset, .unset, .unset, .unset, .unset, .unset, .unset, .unset]) rfl ?_
      refine XS.iload X0.here hx rfl (Jvm.hb hby at_80) rfl ?_
      refine XS.ifNo X0.here hx rfl (Jvm.hb hby at_82) rfl ((if0 _ _).trans (feq ((by decide) : ¬ ((1 : Int32) = (0 : Int32)))).1) ?_
      refine XS.iconst X0.here hx rfl (Jvm.hb hby at_85) ?_
      refine XS.goto X0.here hx rfl (pc0 := 86) (pc' := 90) rfl (Jvm.hb hby at_86) (by decide) (by decide) ?_
      show Steps pP.tables eE below (s₁.setTop (mkF mM 90 #[.val (.int p1), .val (.int p2), .val (.int p3), .val (.int p4), .val (.int (9 : Int32)), .val (.int ev), .val (.int tv), .val (.int (1 : Int32)), .val (.int (0 : Int32)), .val (.int (0 : Int32)), .val (.int (1 : Int32)), .unset, .unset, .unset, .unset, .unset, .unset, .unset, .unset, .unset, .unset, .unset, .unset, .unset] [(.int (1 : Int32))])) tT
      refine XS.iload X0.here hx rfl (Jvm.hb hby at_90) rfl ?_
      refine XS.ifYes X0.here hx rfl (pc0 := 92) (pc' := 99) rfl (Jvm.hb hby at_92) rfl ((if0 _ _).trans (teq ((by decide) : (0 : Int32) = (0 : Int32))).1) (by decide) (by decide) ?_
      refine XS.iconst X0.here hx rfl (Jvm.hb hby at_99) ?_
      refine XS.iadd X0.here hx rfl (Jvm.hb hby at_100) rfl ?_
      refine XS.iload X0.here hx rfl (Jvm.hb hby at_101) rfl ?_
      refine XS.ifYes X0.here hx rfl (pc0 := 103) (pc' := 110) rfl (Jvm.hb hby at_103) rfl ((if0 _ _).trans (teq ((by decide) : (0 : Int32) = (0 : Int32))).1) (by decide) (by decide) ?_
      show Steps pP.tables eE below (s₁.setTop (mkF mM 110 #[.val (.int p1), .val (.int p2), .val (.int p3), .val (.int p4), .val (.int (9 : Int32)), .val (.int ev), .val (.int tv), .val (.int (1 : Int32)), .val (.int (0 : Int32)), .val (.int (0 : Int32)), .val (.int (1 : Int32)), .unset, .unset, .unset, .unset, .unset, .unset, .unset, .unset, .unset, .unset, .unset, .unset, .unset] [(.int (1 : Int32))])) tT
      refine XS.iconst X0.here hx rfl (Jvm.hb hby at_110) ?_
      refine XS.iadd X0.here hx rfl (Jvm.hb hby at_111) rfl ?_
      refine XS.iload X0.here hx rfl (Jvm.hb hby at_112) rfl ?_
      refine XS.ifNo X0.here hx rfl (Jvm.hb hby at_114) rfl ((if0 _ _).trans (feq ((by decide) : ¬ ((1 : Int32) = (0 : Int32)))).1) ?_
      refine XS.iconst X0.here hx rfl (Jvm.hb hby at_117) ?_
      refine XS.goto X0.here hx rfl (pc0 := 118) (pc' := 122) rfl (Jvm.hb hby at_118) (by decide) (by decide) ?_
      show Steps pP.tables eE below (s₁.setTop (mkF mM 122 #[.val (.int p1), .val (.int p2), .val (.int p3), .val (.int p4), .val (.int (9 : Int32)), .val (.int ev), .val (.int tv), .val (.int (1 : Int32)), .val (.int (0 : Int32)), .val (.int (0 : Int32)), .val (.int (1 : Int32)), .unset, .unset, .unset, .unset, .unset, .unset, .unset, .unset, .unset, .unset, .unset, .unset, .unset] [(.int (1 : Int32)), (.int (1 : Int32))])) tT
      refine XS.iadd X0.here hx rfl (Jvm.hb hby at_122) rfl ?_
      refine XS.istore X0.here hx rfl (Jvm.hb hby at_123) rfl (l' := #[.val (.int p1), .val (.int p2), .val (.int p3), .val (.int p4), .val (.int (9 : Int32)), .val (.int ev), .val (.int tv), .val (.int (1 : Int32)), .val (.int (0 : Int32)), .val (.int (0 : Int32)), .val (.int (1 : Int32)), .val (.int (2 : Int32)), .unset, .unset, .unset, .unset, .unset, .unset, .unset, .unset, .unset, .unset, .unset, .unset]) rfl ?_
      refine XS.iload X0.here hx rfl (Jvm.hb hby at_125) rfl ?_
      exact kK
    obtain ⟨T111_, h111_, k111_, X111_, e111_, E111_, A111_, st111_⟩ := newP X0 hx hZ (hw _ (List.mem_of_getElem? (i := 1) rfl)) e0 (g := (mkF mM 127 #[.val (.int p1), .val (.int p2), .val (.int p3), .val (.int p4), .val (.int (9 : Int32)), .val (.int ev), .val (.int tv), .val (.int (1 : Int32)), .val (.int (0 : Int32)), .val (.int (0 : Int32)), .val (.int (1 : Int32)), .val (.int (2 : Int32)), .unset, .unset, .unset, .unset, .unset, .unset, .unset, .unset, .unset, .unset, .unset, .unset] [(.int (2 : Int32))])) rfl (Jvm.hb hby at_127) rfl (by decide) (cap := 4) (by decide) (by decide) (by decide) (by decide)
    obtain ⟨b111_, g111_⟩ : ∃ z, z = h0.size := ⟨_, rfl⟩
    rw [← g111_] at A111_ st111_
    have sz_b111_ : h0.size ≤ b111_ := Nat.le_trans K0.1 (Nat.le_of_eq g111_.symm)
    have ge_b111_ : n0 ≤ b111_ := Nat.le_trans Z0 sz_b111_
    have K111_ := K0.ext E111_
    have V111_ : own_T Z h111_ b111_ .int (2 : Int32) (fun _ => (0 : Int32)) := own_T.new A111_ (by decide) rfl
    refine own_fin st111_ ?_
    show own_Fin pP eE below _ (T111_.setTop (mkF mM 129 #[.val (.int p1), .val (.int p2), .val (.int p3), .val (.int p4), .val (.int (9 : Int32)), .val (.int ev), .val (.int tv), .val (.int (1 : Int32)), .val (.int (0 : Int32)), .val (.int (0 : Int32)), .val (.int (1 : Int32)), .val (.int (2 : Int32)), .unset, .unset, .unset, .unset, .unset, .unset, .unset, .unset, .unset, .unset, .unset, .unset] [(.ref b111_)]))
    refine own_fin (b := T111_.setTop (mkF mM 144 #[.val (.int p1), .val (.int p2), .val (.int p3), .val (.int p4), .val (.int (9 : Int32)), .val (.int ev), .val (.int tv), .val (.int (1 : Int32)), .val (.int (0 : Int32)), .val (.int (0 : Int32)), .val (.int (1 : Int32)), .val (.int (2 : Int32)), .val (.ref b111_), .val (.int (0 : Int32)), .unset, .unset, .unset, .unset, .unset, .unset, .unset, .unset, .unset, .unset] [(.int (0 : Int32)), (.int (0 : Int32)), (.ref b111_)])) (fun tT kK => ?_) ?_
    · show Steps pP.tables eE below (T111_.setTop (mkF mM 129 #[.val (.int p1), .val (.int p2), .val (.int p3), .val (.int p4), .val (.int (9 : Int32)), .val (.int ev), .val (.int tv), .val (.int (1 : Int32)), .val (.int (0 : Int32)), .val (.int (0 : Int32)), .val (.int (1 : Int32)), .val (.int (2 : Int32)), .unset, .unset, .unset, .unset, .unset, .unset, .unset, .unset, .unset, .unset, .unset, .unset] [(.ref b111_)])) tT
      refine XS.astore X111_.here hx rfl (Jvm.hb hby at_129) rfl rfl (l' := #[.val (.int p1), .val (.int p2), .val (.int p3), .val (.int p4), .val (.int (9 : Int32)), .val (.int ev), .val (.int tv), .val (.int (1 : Int32)), .val (.int (0 : Int32)), .val (.int (0 : Int32)), .val (.int (1 : Int32)), .val (.int (2 : Int32)), .val (.ref b111_), .unset, .unset, .unset, .unset, .unset, .unset, .unset, .unset, .unset, .unset, .unset]) rfl ?_
      refine XS.iconst X111_.here hx rfl (Jvm.hb hby at_131) ?_
      refine XS.istore X111_.here hx rfl (Jvm.hb hby at_132) rfl (l' := #[.val (.int p1), .val (.int p2), .val (.int p3), .val (.int p4), .val (.int (9 : Int32)), .val (.int ev), .val (.int tv), .val (.int (1 : Int32)), .val (.int (0 : Int32)), .val (.int (0 : Int32)), .val (.int (1 : Int32)), .val (.int (2 : Int32)), .val (.ref b111_), .val (.int (0 : Int32)), .unset, .unset, .unset, .unset, .unset, .unset, .unset, .unset, .unset, .unset]) rfl ?_
      show Steps pP.tables eE below (T111_.setTop (mkF mM 134 #[.val (.int p1), .val (.int p2), .val (.int p3), .val (.int p4), .val (.int (9 : Int32)), .val (.int ev), .val (.int tv), .val (.int (1 : Int32)), .val (.int (0 : Int32)), .val (.int (0 : Int32)), .val (.int (1 : Int32)), .val (.int (2 : Int32)), .val (.ref b111_), .val (.int (0 : Int32)), .unset, .unset, .unset, .unset, .unset, .unset, .unset, .unset, .unset, .unset] [])) tT
      refine XS.iload X111_.here hx rfl (Jvm.hb hby at_134) rfl ?_
      refine XS.ifNo X111_.here hx rfl (Jvm.hb hby at_136) rfl ((if0 _ _).trans (feq ((by decide) : ¬ ((1 : Int32) = (0 : Int32)))).1) ?_
      refine XS.aload X111_.here hx rfl (Jvm.hb hby at_139) rfl rfl ?_
      refine XS.iload X111_.here hx rfl (Jvm.hb hby at_141) rfl ?_
      refine XS.iconst X111_.here hx rfl (Jvm.hb hby at_143) ?_
      exact kK
    obtain ⟨cl112_, Ar112_, Sz112_, Nn112_, Hh112_⟩ := id V111_
    have hin112_ : ¬ ((0 : Int32) < 0 ∨ cl112_.slots.size ≤ ((0 : Int32)).toNatClampNeg) := inb_of Sz112_ ⟨by decide, by decide⟩
    obtain ⟨T112_, h112_, X112_, e112_, W112_, st112_⟩ := stI X111_ hx hZ e111_ Ar112_ (j := (0 : Int32)) hin112_ (g := (mkF mM 144 #[.val (.int p1), .val (.int p2), .val (.int p3), .val (.int p4), .val (.int (9 : Int32)), .val (.int ev), .val (.int tv), .val (.int (1 : Int32)), .val (.int (0 : Int32)), .val (.int (0 : Int32)), .val (.int (1 : Int32)), .val (.int (2 : Int32)), .val (.ref b111_), .val (.int (0 : Int32)), .unset, .unset, .unset, .unset, .unset, .unset, .unset, .unset, .unset, .unset] [(.int (0 : Int32)), (.int (0 : Int32)), (.ref b111_)])) rfl rfl (Jvm.hb hby at_144)
    have U112_ : own_T Z h112_ b111_ .int (2 : Int32) (own_up (fun _ => (0 : Int32)) (0 : Int32) (0 : Int32)) := own_T.set ⟨cl112_, Ar112_, Sz112_, Nn112_, Hh112_⟩ W112_ ⟨by decide, by decide⟩
    have K112_ := K111_.wr W112_ (Or.inr sz_b111_)
    have N112_ := Fr.snoc X112_ N0 ge_b111_
    refine own_fin st112_ ?_
    show own_Fin pP eE below _ (T112_.setTop (mkF mM 145 #[.val (.int p1), .val (.int p2), .val (.int p3), .val (.int p4), .val (.int (9 : Int32)), .val (.int ev), .val (.int tv), .val (.int (1 : Int32)), .val (.int (0 : Int32)), .val (.int (0 : Int32)), .val (.int (1 : Int32)), .val (.int (2 : Int32)), .val (.ref b111_), .val (.int (0 : Int32)), .unset, .unset, .unset, .unset, .unset, .unset, .unset, .unset, .unset, .unset] []))
    refine own_fin (b := T112_.setTop (mkF mM 186 #[.val (.int p1), .val (.int p2), .val (.int p3), .val (.int p4), .val (.int (9 : Int32)), .val (.int ev), .val (.int tv), .val (.int (1 : Int32)), .val (.int (0 : Int32)), .val (.int (0 : Int32)), .val (.int (1 : Int32)), .val (.int (2 : Int32)), .val (.ref b111_), .val (.int (1 : Int32)), .unset, .unset, .unset, .unset, .unset, .unset, .unset, .unset, .unset, .unset] [(.int (3 : Int32)), (.int (1 : Int32)), (.ref b111_)])) (fun tT kK => ?_) ?_
    · show Steps pP.tables eE below (T112_.setTop (mkF mM 145 #[.val (.int p1), .val (.int p2), .val (.int p3), .val (.int p4), .val (.int (9 : Int32)), .val (.int ev), .val (.int tv), .val (.int (1 : Int32)), .val (.int (0 : Int32)), .val (.int (0 : Int32)), .val (.int (1 : Int32)), .val (.int (2 : Int32)), .val (.ref b111_), .val (.int (0 : Int32)), .unset, .unset, .unset, .unset, .unset, .unset, .unset, .unset, .unset, .unset] [])) tT
      refine XS.iinc X112_.here hx rfl (Jvm.hb hby at_145) rfl (l' := #[.val (.int p1), .val (.int p2), .val (.int p3), .val (.int p4), .val (.int (9 : Int32)), .val (.int ev), .val (.int tv), .val (.int (1 : Int32)), .val (.int (0 : Int32)), .val (.int (0 : Int32)), .val (.int (1 : Int32)), .val (.int (2 : Int32)), .val (.ref b111_), .val (.int (1 : Int32)), .unset, .unset, .unset, .unset, .unset, .unset, .unset, .unset, .unset, .unset]) rfl ?_
      show Steps pP.tables eE below (T112_.setTop (mkF mM 148 #[.val (.int p1), .val (.int p2), .val (.int p3), .val (.int p4), .val (.int (9 : Int32)), .val (.int ev), .val (.int tv), .val (.int (1 : Int32)), .val (.int (0 : Int32)), .val (.int (0 : Int32)), .val (.int (1 : Int32)), .val (.int (2 : Int32)), .val (.ref b111_), .val (.int (1 : Int32)), .unset, .unset, .unset, .unset, .unset, .unset, .unset, .unset, .unset, .unset] [])) tT
      refine XS.iload X112_.here hx rfl (Jvm.hb hby at_148) rfl ?_
      refine XS.ifYes X112_.here hx rfl (pc0 := 150) (pc' := 162) rfl (Jvm.hb hby at_150) rfl ((if0 _ _).trans (teq ((by decide) : (0 : Int32) = (0 : Int32))).1) (by decide) (by decide) ?_
      refine XS.iload X112_.here hx rfl (Jvm.hb hby at_162) rfl ?_
      refine XS.ifYes X112_.here hx rfl (pc0 := 164) (pc' := 176) rfl (Jvm.hb hby at_164) rfl ((if0 _ _).trans (teq ((by decide) : (0 : Int32) = (0 : Int32))).1) (by decide) (by decide) ?_
      refine XS.iload X112_.here hx rfl (Jvm.hb hby at_176) rfl ?_
      refine XS.ifNo X112_.here hx rfl (Jvm.hb hby at_178) rfl ((if0 _ _).trans (feq ((by decide) : ¬ ((1 : Int32) = (0 : Int32)))).1) ?_
      show Steps pP.tables eE below (T112_.setTop (mkF mM 181 #[.val (.int p1), .val (.int p2), .val (.int p3), .val (.int p4), .val (.int (9 : Int32)), .val (.int ev), .val (.int tv), .val (.int (1 : Int32)), .val (.int (0 : Int32)), .val (.int (0 : Int32)), .val (.int (1 : Int32)), .val (.int (2 : Int32)), .val (.ref b111_), .val (.int (1 : Int32)), .unset, .unset, .unset, .unset, .unset, .unset, .unset, .unset, .unset, .unset] [])) tT
      refine XS.aload X112_.here hx rfl (Jvm.hb hby at_181) rfl rfl ?_
      refine XS.iload X112_.here hx rfl (Jvm.hb hby at_183) rfl ?_
      refine XS.iconst X112_.here hx rfl (Jvm.hb hby at_185) ?_
      exact kK
    obtain ⟨cl113_, Ar113_, Sz113_, Nn113_, Hh113_⟩ := id U112_
    have hin113_ : ¬ ((1 : Int32) < 0 ∨ cl113_.slots.size ≤ ((1 : Int32)).toNatClampNeg) := inb_of Sz113_ ⟨by decide, by decide⟩
    obtain ⟨T113_, h113_, X113_, e113_, W113_, st113_⟩ := stI X112_ hx hZ e112_ Ar113_ (j := (1 : Int32)) hin113_ (g := (mkF mM 186 #[.val (.int p1), .val (.int p2), .val (.int p3), .val (.int p4), .val (.int (9 : Int32)), .val (.int ev), .val (.int tv), .val (.int (1 : Int32)), .val (.int (0 : Int32)), .val (.int (0 : Int32)), .val (.int (1 : Int32)), .val (.int (2 : Int32)), .val (.ref b111_), .val (.int (1 : Int32)), .unset, .unset, .unset, .unset, .unset, .unset, .unset, .unset, .unset, .unset] [(.int (3 : Int32)), (.int (1 : Int32)), (.ref b111_)])) rfl rfl (Jvm.hb hby at_186)
    have U113_ : own_T Z h113_ b111_ .int (2 : Int32) (own_up (own_up (fun _ => (0 : Int32)) (0 : Int32) (0 : Int32)) (1 : Int32) (3 : Int32)) := own_T.set ⟨cl113_, Ar113_, Sz113_, Nn113_, Hh113_⟩ W113_ ⟨by decide, by decide⟩
    have K113_ := K112_.wr W113_ (Or.inr sz_b111_)
    have N113_ := Fr.snoc X113_ N112_ ge_b111_
    refine own_fin st113_ ?_
    show own_Fin pP eE below _ (T113_.setTop (mkF mM 187 #[.val (.int p1), .val (.int p2), .val (.int p3), .val (.int p4), .val (.int (9 : Int32)), .val (.int ev), .val (.int tv), .val (.int (1 : Int32)), .val (.int (0 : Int32)), .val (.int (0 : Int32)), .val (.int (1 : Int32)), .val (.int (2 : Int32)), .val (.ref b111_), .val (.int (1 : Int32)), .unset, .unset, .unset, .unset, .unset, .unset, .unset, .unset, .unset, .unset] []))
    refine own_fin (b := T113_.setTop (mkF mM 190 #[.val (.int p1), .val (.int p2), .val (.int p3), .val (.int p4), .val (.int (9 : Int32)), .val (.int ev), .val (.int tv), .val (.int (1 : Int32)), .val (.int (0 : Int32)), .val (.int (0 : Int32)), .val (.int (1 : Int32)), .val (.int (2 : Int32)), .val (.ref b111_), .val (.int (2 : Int32)), .unset, .unset, .unset, .unset, .unset, .unset, .unset, .unset, .unset, .unset] [])) (fun tT kK => ?_) ?_
    · show Steps pP.tables eE below (T113_.setTop (mkF mM 187 #[.val (.int p1), .val (.int p2), .val (.int p3), .val (.int p4), .val (.int (9 : Int32)), .val (.int ev), .val (.int tv), .val (.int (1 : Int32)), .val (.int (0 : Int32)), .val (.int (0 : Int32)), .val (.int (1 : Int32)), .val (.int (2 : Int32)), .val (.ref b111_), .val (.int (1 : Int32)), .unset, .unset, .unset, .unset, .unset, .unset, .unset, .unset, .unset, .unset] [])) tT
      refine XS.iinc X113_.here hx rfl (Jvm.hb hby at_187) rfl (l' := #[.val (.int p1), .val (.int p2), .val (.int p3), .val (.int p4), .val (.int (9 : Int32)), .val (.int ev), .val (.int tv), .val (.int (1 : Int32)), .val (.int (0 : Int32)), .val (.int (0 : Int32)), .val (.int (1 : Int32)), .val (.int (2 : Int32)), .val (.ref b111_), .val (.int (2 : Int32)), .unset, .unset, .unset, .unset, .unset, .unset, .unset, .unset, .unset, .unset]) rfl ?_
      exact kK
    show own_Fin pP eE below _ (T113_.setTop (mkF mM 190 #[.val (.int p1), .val (.int p2), .val (.int p3), .val (.int p4), .val (.int (9 : Int32)), .val (.int ev), .val (.int tv), .val (.int (1 : Int32)), .val (.int (0 : Int32)), .val (.int (0 : Int32)), .val (.int (1 : Int32)), .val (.int (2 : Int32)), .val (.ref b111_), .val (.int (2 : Int32)), .unset, .unset, .unset, .unset, .unset, .unset, .unset, .unset, .unset, .unset] []))
    exact jp1_ (1 : Int32) (0 : Int32) (0 : Int32) (1 : Int32) (2 : Int32) b111_ (own_up (own_up (fun _ => (0 : Int32)) (0 : Int32) (0 : Int32)) (1 : Int32) (3 : Int32)) _ _ _ _ own_St9 ge_b111_ X113_ e113_ K113_ U113_ N113_
  · show own_Fin pP eE below _ (s₁.setTop (mkF mM 23 #[.val (.int p1), .val (.int p2), .val (.int p3), .val (.int p4), .val (.int (10 : Int32)), .val (.int ev), .val (.int tv), .unset, .unset, .unset, .unset, .unset, .unset, .unset, .unset, .unset, .unset, .unset, .unset, .unset, .unset, .unset, .unset, .unset] []))
    refine own_fin (b := s₁.setTop (mkF mM 127 #[.val (.int p1), .val (.int p2), .val (.int p3), .val (.int p4), .val (.int (10 : Int32)), .val (.int ev), .val (.int tv), .val (.int (0 : Int32)), .val (.int (1 : Int32)), .val (.int (0 : Int32)), .val (.int (1 : Int32)), .val (.int (2 : Int32)), .unset, .unset, .unset, .unset, .unset, .unset, .unset, .unset, .unset, .unset, .unset, .unset] [(.int (2 : Int32))])) (fun tT kK => ?_) ?_
    · show Steps pP.tables eE below (s₁.setTop (mkF mM 23 #[.val (.int p1), .val (.int p2), .val (.int p3), .val (.int p4), .val (.int (10 : Int32)), .val (.int ev), .val (.int tv), .unset, .unset, .unset, .unset, .unset, .unset, .unset, .unset, .unset, .unset, .unset, .unset, .unset, .unset, .unset, .unset, .unset] [])) tT
      refine XS.iload X0.here hx rfl (Jvm.hb hby at_23) rfl ?_
      refine XS.iconst X0.here hx rfl (Jvm.hb hby at_25) ?_
      refine XS.iand X0.here hx rfl (Jvm.hb hby at_26) rfl ?_
      refine XS.ifYes X0.here hx rfl (pc0 := 27) (pc' := 34) rfl (Jvm.hb hby at_27) rfl ((if0 _ _).trans (teq ((by decide) : (0 : Int32) = (0 : Int32))).1) (by decide) (by decide) ?_
      refine XS.iconst X0.here hx rfl (Jvm.hb hby at_34) ?_
      refine XS.istore X0.here hx rfl (Jvm.hb hby at_35) rfl (l' := #[.val (.int p1), .val (.int p2), .val (.int p3), .val (.int p4), .val (.int (10 : Int32)), .val (.int ev), .val (.int tv), .val (.int (0 : Int32)), .unset, .unset, .unset, .unset, .unset, .unset, .unset, .unset, .unset, .unset, .unset, .unset, .unset, .unset, .unset, .unset]) rfl ?_
      show Steps pP.tables eE below (s₁.setTop (mkF mM 37 #[.val (.int p1), .val (.int p2), .val (.int p3), .val (.int p4), .val (.int (10 : Int32)), .val (.int ev), .val (.int tv), .val (.int (0 : Int32)), .unset, .unset, .unset, .unset, .unset, .unset, .unset, .unset, .unset, .unset, .unset, .unset, .unset, .unset, .unset, .unset] [])) tT
      refine XS.iload X0.here hx rfl (Jvm.hb hby at_37) rfl ?_
      refine XS.iconst X0.here hx rfl (Jvm.hb hby at_39) ?_
      refine XS.iand X0.here hx rfl (Jvm.hb hby at_40) rfl ?_
      refine XS.ifNo X0.here hx rfl (Jvm.hb hby at_41) rfl ((if0 _ _).trans (feq ((by decide) : ¬ ((2 : Int32) = (0 : Int32)))).1) ?_
      refine XS.iconst X0.here hx rfl (Jvm.hb hby at_44) ?_
      refine XS.goto X0.here hx rfl (pc0 := 45) (pc' := 49) rfl (Jvm.hb hby at_45) (by decide) (by decide) ?_
      show Steps pP.tables eE below (s₁.setTop (mkF mM 49 #[.val (.int p1), .val (.int p2), .val (.int p3), .val (.int p4), .val (.int (10 : Int32)), .val (.int ev), .val (.int tv), .val (.int (0 : Int32)), .unset, .unset, .unset, .unset, .unset, .unset, .unset, .unset, .unset, .unset, .unset, .unset, .unset, .unset, .unset, .unset] [(.int (1 : Int32))])) tT
      refine XS.istore X0.here hx rfl (Jvm.hb hby at_49) rfl (l' := #[.val (.int p1), .val (.int p2), .val (.int p3), .val (.int p4), .val (.int (10 : Int32)), .val (.int ev), .val (.int tv), .val (.int (0 : Int32)), .val (.int (1 : Int32)), .unset, .unset, .unset, .unset, .unset, .unset, .unset, .unset, .unset, .unset, .unset, .unset, .unset, .unset, .unset]) rfl ?_
      refine XS.iload X0.here hx rfl (Jvm.hb hby at_51) rfl ?_
      refine XS.iconst X0.here hx rfl (Jvm.hb hby at_53) ?_
      refine XS.iand X0.here hx rfl (Jvm.hb hby at_54) rfl ?_
      refine XS.ifYes X0.here hx rfl (pc0 := 55) (pc' := 62) rfl (Jvm.hb hby at_55) rfl ((if0 _ _).trans (teq ((by decide) : (0 : Int32) = (0 : Int32))).1) (by decide) (by decide) ?_
      refine XS.iconst X0.here hx rfl (Jvm.hb hby at_62) ?_
      show Steps pP.tables eE below (s₁.setTop (mkF mM 63 #[.val (.int p1), .val (.int p2), .val (.int p3), .val (.int p4), .val (.int (10 : Int32)), .val (.int ev), .val (.int tv), .val (.int (0 : Int32)), .val (.int (1 : Int32)), .unset, .unset, .unset, .unset, .unset, .unset, .unset, .unset, .unset, .unset, .unset, .unset, .unset, .unset, .unset] [(.int (0 : Int32))])) tT
      refine XS.istore X0.here hx rfl (Jvm.hb hby at_63) rfl (l' := #[.val (.int p1), .val (.int p2), .val (.int p3), .val (.int p4), .val (.int (10 : Int32)), .val (.int ev), .val (.int tv), .val (.int (0 : Int32)), .val (.int (1 : Int32)), .val (.int (0 : Int32)), .unset, .unset, .unset, .unset, .unset, .unset, .unset, .unset, .unset, .unset, .unset, .unset, .unset, .unset]) rfl ?_
      refine XS.iload X0.here hx rfl (Jvm.hb hby at_65) rfl ?_
      refine XS.bipush X0.here hx rfl (Jvm.hb hby at_67) ?_
      refine XS.iand X0.here hx rfl (Jvm.hb hby at_69) rfl ?_
      refine XS.ifNo X0.here hx rfl (Jvm.hb hby at_70) rfl ((if0 _ _).trans (feq ((by decide) : ¬ ((8 : Int32) = (0 : Int32)))).1) ?_
      refine XS.iconst X0.here hx rfl (Jvm.hb hby at_73) ?_
      show Steps pP.tables eE below (s₁.setTop (mkF mM 74 #[.val (.int p1), .val (.int p2), .val (.int p3), .val (.int p4), .val (.int (10 : Int32)), .val (.int ev), .val (.int tv), .val (.int (0 : Int32)), .val (.int (1 : Int32)), .val (.int (0 : Int32)), .unset, .unset, .unset, .unset, .unset, .unset, .unset, .unset, .unset, .unset, .unset, .unset, .unset, .unset] [(.int (1 : Int32))])) tT
      refine XS.goto X0.here hx rfl (pc0 := 74) (pc' := 78) rfl (Jvm.hb hby at_74) (by decide) (by decide) ?_
      refine XS.istore X0.here hx rfl (Jvm.hb hby at_78) rfl (l' := #[.val (.int p1), .val (.int p2), .val (.int p3), .val (.int p4), .val (.int (10 : Int32)), .val (.int ev), .val (.int tv), .val (.int (0 : Int32)), .val (.int (1 : Int32)), .val (.int (0 : Int32)), .val (.int (1 : Int32)), .unset, .unset, .unset, .unset, .unset, .unset, .unset, .unset, .unset, .unset, .unset, .unset, .unset]) rfl ?_
      refine XS.iload X0.here hx rfl (Jvm.hb hby at_80) rfl ?_
      refine XS.ifYes X0.here hx rfl (pc0 := 82) (pc' := 89) rfl (Jvm.hb hby at_82) rfl ((if0 _ _).trans (teq ((by decide) : (0 : Int32) = (0 : Int32))).1) (by decide) (by decide) ?_
      refine XS.iconst X0.here hx rfl (Jvm.hb hby at_89) ?_
      refine XS.iload X0.here hx rfl (Jvm.hb hby at_90) rfl ?_
      show Steps pP.tables eE below (s₁.setTop (mkF mM 92 #[.val (.int p1), .val (.int p2), .val (.int p3), .val (.int p4), .val (.int (10 : Int32)), .val (.int ev), .val (.int tv), .val (.int (0 : Int32)), .val (.int (1 : Int32)), .val (.int (0 : Int32)), .val (.int (1 : Int32)), .unset, .unset, .unset, .unset, .unset, .unset, .unset, .unset, .unset, .unset, .unset, .unset, .unset] [(.int (1 : Int32)), (.int (0 : Int32))])) tT
      refine XS.ifNo X0.here hx rfl (Jvm.hb hby at_92) rfl ((if0 _ _).trans (feq ((by decide) : ¬ ((1 : Int32) = (0 : Int32)))).1) ?_
      refine XS.iconst X0.here hx rfl (Jvm.hb hby at_95) ?_
      refine XS.goto X0.here hx rfl (pc0 := 96) (pc' := 100) rfl (Jvm.hb hby at_96) (by decide) (by decide) ?_
      refine XS.iadd X0.here hx rfl (Jvm.hb hby at_100) rfl ?_
      refine XS.iload X0.here hx rfl (Jvm.hb hby at_101) rfl ?_
      refine XS.ifYes X0.here hx rfl (pc0 := 103) (pc' := 110) rfl (Jvm.hb hby at_103) rfl ((if0 _ _).trans (teq ((by decide) : (0 : Int32) = (0 : Int32))).1) (by decide) (by decide) ?_
      show Steps pP.tables eE below (s₁.setTop (mkF mM 110 #[.val (.int p1), .val (.int p2), .val (.int p3), .val (.int p4), .val (.int (10 : Int32)), .val (.int ev), .val (.int tv), .val (.int (0 : Int32)), .val (.int (1 : Int32)), .val (.int (0 : Int32)), .val (.int (1 : Int32)), .unset, .unset, .unset, .unset, .unset, .unset, .unset, .unset, .unset, .unset, .unset, .unset, .unset] [(.int (1 : Int32))])) tT
      refine XS.iconst X0.here hx rfl (Jvm.hb hby at_110) ?_
      refine XS.iadd X0.here hx rfl (Jvm.hb hby at_111) rfl ?_
      refine XS.iload X0.here hx rfl (Jvm.hb hby at_112) rfl ?_
      refine XS.ifNo X0.here hx rfl (Jvm.hb hby at_114) rfl ((if0 _ _).trans (feq ((by decide) : ¬ ((1 : Int32) = (0 : Int32)))).1) ?_
      refine XS.iconst X0.here hx rfl (Jvm.hb hby at_117) ?_
      refine XS.goto X0.here hx rfl (pc0 := 118) (pc' := 122) rfl (Jvm.hb hby at_118) (by decide) (by decide) ?_
      show Steps pP.tables eE below (s₁.setTop (mkF mM 122 #[.val (.int p1), .val (.int p2), .val (.int p3), .val (.int p4), .val (.int (10 : Int32)), .val (.int ev), .val (.int tv), .val (.int (0 : Int32)), .val (.int (1 : Int32)), .val (.int (0 : Int32)), .val (.int (1 : Int32)), .unset, .unset, .unset, .unset, .unset, .unset, .unset, .unset, .unset, .unset, .unset, .unset, .unset] [(.int (1 : Int32)), (.int (1 : Int32))])) tT
      refine XS.iadd X0.here hx rfl (Jvm.hb hby at_122) rfl ?_
      refine XS.istore X0.here hx rfl (Jvm.hb hby at_123) rfl (l' := #[.val (.int p1), .val (.int p2), .val (.int p3), .val (.int p4), .val (.int (10 : Int32)), .val (.int ev), .val (.int tv), .val (.int (0 : Int32)), .val (.int (1 : Int32)), .val (.int (0 : Int32)), .val (.int (1 : Int32)), .val (.int (2 : Int32)), .unset, .unset, .unset, .unset, .unset, .unset, .unset, .unset, .unset, .unset, .unset, .unset]) rfl ?_
      refine XS.iload X0.here hx rfl (Jvm.hb hby at_125) rfl ?_
      exact kK
    obtain ⟨T114_, h114_, k114_, X114_, e114_, E114_, A114_, st114_⟩ := newP X0 hx hZ (hw _ (List.mem_of_getElem? (i := 1) rfl)) e0 (g := (mkF mM 127 #[.val (.int p1), .val (.int p2), .val (.int p3), .val (.int p4), .val (.int (10 : Int32)), .val (.int ev), .val (.int tv), .val (.int (0 : Int32)), .val (.int (1 : Int32)), .val (.int (0 : Int32)), .val (.int (1 : Int32)), .val (.int (2 : Int32)), .unset, .unset, .unset, .unset, .unset, .unset, .unset, .unset, .unset, .unset, .unset, .unset] [(.int (2 : Int32))])) rfl (Jvm.hb hby at_127) rfl (by decide) (cap := 4) (by decide) (by decide) (by decide) (by decide)
    obtain ⟨b114_, g114_⟩ : ∃ z, z = h0.size := ⟨_, rfl⟩
    rw [← g114_] at A114_ st114_
    have sz_b114_ : h0.size ≤ b114_ := Nat.le_trans K0.1 (Nat.le_of_eq g114_.symm)
    have ge_b114_ : n0 ≤ b114_ := Nat.le_trans Z0 sz_b114_
    have K114_ := K0.ext E114_
    have V114_ : own_T Z h114_ b114_ .int (2 : Int32) (fun _ => (0 : Int32)) := own_T.new A114_ (by decide) rfl
    refine own_fin st114_ ?_
    show own_Fin pP eE below _ (T114_.setTop (mkF mM 129 #[.val (.int p1), .val (.int p2), .val (.int p3), .val (.int p4), .val (.int (10 : Int32)), .val (.int ev), .val (.int tv), .val (.int (0 : Int32)), .val (.int (1 : Int32)), .val (.int (0 : Int32)), .val (.int (1 : Int32)), .val (.int (2 : Int32)), .unset, .unset, .unset, .unset, .unset, .unset, .unset, .unset, .unset, .unset, .unset, .unset] [(.ref b114_)]))
    refine own_fin (b := T114_.setTop (mkF mM 158 #[.val (.int p1), .val (.int p2), .val (.int p3), .val (.int p4), .val (.int (10 : Int32)), .val (.int ev), .val (.int tv), .val (.int (0 : Int32)), .val (.int (1 : Int32)), .val (.int (0 : Int32)), .val (.int (1 : Int32)), .val (.int (2 : Int32)), .val (.ref b114_), .val (.int (0 : Int32)), .unset, .unset, .unset, .unset, .unset, .unset, .unset, .unset, .unset, .unset] [(.int (1 : Int32)), (.int (0 : Int32)), (.ref b114_)])) (fun tT kK => ?_) ?_
    · show Steps pP.tables eE below (T114_.setTop (mkF mM 129 #[.val (.int p1), .val (.int p2), .val (.int p3), .val (.int p4), .val (.int (10 : Int32)), .val (.int ev), .val (.int tv), .val (.int (0 : Int32)), .val (.int (1 : Int32)), .val (.int (0 : Int32)), .val (.int (1 : Int32)), .val (.int (2 : Int32)), .unset, .unset, .unset, .unset, .unset, .unset, .unset, .unset, .unset, .unset, .unset, .unset] [(.ref b114_)])) tT
      refine XS.astore X114_.here hx rfl (Jvm.hb hby at_129) rfl rfl (l' := #[.val (.int p1), .val (.int p2), .val (.int p3), .val (.int p4), .val (.int (10 : Int32)), .val (.int ev), .val (.int tv), .val (.int (0 : Int32)), .val (.int (1 : Int32)), .val (.int (0 : Int32)), .val (.int (1 : Int32)), .val (.int (2 : Int32)), .val (.ref b114_), .unset, .unset, .unset, .unset, .unset, .unset, .unset, .unset, .unset, .unset, .unset]) rfl ?_
      refine XS.iconst X114_.here hx rfl (Jvm.hb hby at_131) ?_
      refine XS.istore X114_.here hx rfl (Jvm.hb hby at_132) rfl (l' := #[.val (.int p1), .val (.int p2), .val (.int p3), .val (.int p4), .val (.int (10 : Int32)), .val (.int ev), .val (.int tv), .val (.int (0 : Int32)), .val (.int (1 : Int32)), .val (.int (0 : Int32)), .val (.int (1 : Int32)), .val (.int (2 : Int32)), .val (.ref b114_), .val (.int (0 : Int32)), .unset, .unset, .unset, .unset, .unset, .unset, .unset, .unset, .unset, .unset]) rfl ?_
      show Steps pP.tables eE below (T114_.setTop (mkF mM 134 #[.val (.int p1), .val (.int p2), .val (.int p3), .val (.int p4), .val (.int (10 : Int32)), .val (.int ev), .val (.int tv), .val (.int (0 : Int32)), .val (.int (1 : Int32)), .val (.int (0 : Int32)), .val (.int (1 : Int32)), .val (.int (2 : Int32)), .val (.ref b114_), .val (.int (0 : Int32)), .unset, .unset, .unset, .unset, .unset, .unset, .unset, .unset, .unset, .unset] [])) tT
      refine XS.iload X114_.here hx rfl (Jvm.hb hby at_134) rfl ?_
      refine XS.ifYes X114_.here hx rfl (pc0 := 136) (pc' := 148) rfl (Jvm.hb hby at_136) rfl ((if0 _ _).trans (teq ((by decide) : (0 : Int32) = (0 : Int32))).1) (by decide) (by decide) ?_
      refine XS.iload X114_.here hx rfl (Jvm.hb hby at_148) rfl ?_
      refine XS.ifNo X114_.here hx rfl (Jvm.hb hby at_150) rfl ((if0 _ _).trans (feq ((by decide) : ¬ ((1 : Int32) = (0 : Int32)))).1) ?_
      refine XS.aload X114_.here hx rfl (Jvm.hb hby at_153) rfl rfl ?_
      refine XS.iload X114_.here hx rfl (Jvm.hb hby at_155) rfl ?_
      show Steps pP.tables eE below (T114_.setTop (mkF mM 157 #[.val (.int p1), .val (.int p2), .val (.int p3), .val (.int p4), .val (.int (10 : Int32)), .val (.int ev), .val (.int tv), .val (.int (0 : Int32)), .val (.int (1 : Int32)), .val (.int (0 : Int32)), .val (.int (1 : Int32)), .val (.int (2 : Int32)), .val (.ref b114_), .val (.int (0 : Int32)), .unset, .unset, .unset, .unset, .unset, .unset, .unset, .unset, .unset, .unset] [(.int (0 : Int32)), (.ref b114_)])) tT
      refine XS.iconst X114_.here hx rfl (Jvm.hb hby at_157) ?_
      exact kK
    obtain ⟨cl115_, Ar115_, Sz115_, Nn115_, Hh115_⟩ := id V114_
    have hin115_ : ¬ ((0 : Int32) < 0 ∨ cl115_.slots.size ≤ ((0 : Int32)).toNatClampNeg) := inb_of Sz115_ ⟨by decide, by decide⟩
    obtain ⟨T115_, h115_, X115_, e115_, W115_, st115_⟩ := stI X114_ hx hZ e114_ Ar115_ (j := (0 : Int32)) hin115_ (g := (mkF mM 158 #[.val (.int p1), .val (.int p2), .val (.int p3), .val (.int p4), .val (.int (10 : Int32)), .val (.int ev), .val (.int tv), .val (.int (0 : Int32)), .val (.int (1 : Int32)), .val (.int (0 : Int32)), .val (.int (1 : Int32)), .val (.int (2 : Int32)), .val (.ref b114_), .val (.int (0 : Int32)), .unset, .unset, .unset, .unset, .unset, .unset, .unset, .unset, .unset, .unset] [(.int (1 : Int32)), (.int (0 : Int32)), (.ref b114_)])) rfl rfl (Jvm.hb hby at_158)
    have U115_ : own_T Z h115_ b114_ .int (2 : Int32) (own_up (fun _ => (0 : Int32)) (0 : Int32) (1 : Int32)) := own_T.set ⟨cl115_, Ar115_, Sz115_, Nn115_, Hh115_⟩ W115_ ⟨by decide, by decide⟩
    have K115_ := K114_.wr W115_ (Or.inr sz_b114_)
    have N115_ := Fr.snoc X115_ N0 ge_b114_
    refine own_fin st115_ ?_
    show own_Fin pP eE below _ (T115_.setTop (mkF mM 159 #[.val (.int p1), .val (.int p2), .val (.int p3), .val (.int p4), .val (.int (10 : Int32)), .val (.int ev), .val (.int tv), .val (.int (0 : Int32)), .val (.int (1 : Int32)), .val (.int (0 : Int32)), .val (.int (1 : Int32)), .val (.int (2 : Int32)), .val (.ref b114_), .val (.int (0 : Int32)), .unset, .unset, .unset, .unset, .unset, .unset, .unset, .unset, .unset, .unset] []))
    refine own_fin (b := T115_.setTop (mkF mM 186 #[.val (.int p1), .val (.int p2), .val (.int p3), .val (.int p4), .val (.int (10 : Int32)), .val (.int ev), .val (.int tv), .val (.int (0 : Int32)), .val (.int (1 : Int32)), .val (.int (0 : Int32)), .val (.int (1 : Int32)), .val (.int (2 : Int32)), .val (.ref b114_), .val (.int (1 : Int32)), .unset, .unset, .unset, .unset, .unset, .unset, .unset, .unset, .unset, .unset] [(.int (3 : Int32)), (.int (1 : Int32)), (.ref b114_)])) (fun tT kK => ?_) ?_
    · show Steps pP.tables eE below (T115_.setTop (mkF mM 159 #[.val (.int p1), .val (.int p2), .val (.int p3), .val (.int p4), .val (.int (10 : Int32)), .val (.int ev), .val (.int tv), .val (.int (0 : Int32)), .val (.int (1 : Int32)), .val (.int (0 : Int32)), .val (.int (1 : Int32)), .val (.int (2 : Int32)), .val (.ref b114_), .val (.int (0 : Int32)), .unset, .unset, .unset, .unset, .unset, .unset, .unset, .unset, .unset, .unset] [])) tT
      refine XS.iinc X115_.here hx rfl (Jvm.hb hby at_159) rfl (l' := #[.val (.int p1), .val (.int p2), .val (.int p3), .val (.int p4), .val (.int (10 : Int32)), .val (.int ev), .val (.int tv), .val (.int (0 : Int32)), .val (.int (1 : Int32)), .val (.int (0 : Int32)), .val (.int (1 : Int32)), .val (.int (2 : Int32)), .val (.ref b114_), .val (.int (1 : Int32)), .unset, .unset, .unset, .unset, .unset, .unset, .unset, .unset, .unset, .unset]) rfl ?_
      refine XS.iload X115_.here hx rfl (Jvm.hb hby at_162) rfl ?_
      refine XS.ifYes X115_.here hx rfl (pc0 := 164) (pc' := 176) rfl (Jvm.hb hby at_164) rfl ((if0 _ _).trans (teq ((by decide) : (0 : Int32) = (0 : Int32))).1) (by decide) (by decide) ?_
      refine XS.iload X115_.here hx rfl (Jvm.hb hby at_176) rfl ?_
      refine XS.ifNo X115_.here hx rfl (Jvm.hb hby at_178) rfl ((if0 _ _).trans (feq ((by decide) : ¬ ((1 : Int32) = (0 : Int32)))).1) ?_
      show Steps pP.tables eE below (T115_.setTop (mkF mM 181 #[.val (.int p1), .val (.int p2), .val (.int p3), .val (.int p4), .val (.int (10 : Int32)), .val (.int ev), .val (.int tv), .val (.int (0 : Int32)), .val (.int (1 : Int32)), .val (.int (0 : Int32)), .val (.int (1 : Int32)), .val (.int (2 : Int32)), .val (.ref b114_), .val (.int (1 : Int32)), .unset, .unset, .unset, .unset, .unset, .unset, .unset, .unset, .unset, .unset] [])) tT
      refine XS.aload X115_.here hx rfl (Jvm.hb hby at_181) rfl rfl ?_
      refine XS.iload X115_.here hx rfl (Jvm.hb hby at_183) rfl ?_
      refine XS.iconst X115_.here hx rfl (Jvm.hb hby at_185) ?_
      exact kK
    obtain ⟨cl116_, Ar116_, Sz116_, Nn116_, Hh116_⟩ := id U115_
    have hin116_ : ¬ ((1 : Int32) < 0 ∨ cl116_.slots.size ≤ ((1 : Int32)).toNatClampNeg) := inb_of Sz116_ ⟨by decide, by decide⟩
    obtain ⟨T116_, h116_, X116_, e116_, W116_, st116_⟩ := stI X115_ hx hZ e115_ Ar116_ (j := (1 : Int32)) hin116_ (g := (mkF mM 186 #[.val (.int p1), .val (.int p2), .val (.int p3), .val (.int p4), .val (.int (10 : Int32)), .val (.int ev), .val (.int tv), .val (.int (0 : Int32)), .val (.int (1 : Int32)), .val (.int (0 : Int32)), .val (.int (1 : Int32)), .val (.int (2 : Int32)), .val (.ref b114_), .val (.int (1 : Int32)), .unset, .unset, .unset, .unset, .unset, .unset, .unset, .unset, .unset, .unset] [(.int (3 : Int32)), (.int (1 : Int32)), (.ref b114_)])) rfl rfl (Jvm.hb hby at_186)
    have U116_ : own_T Z h116_ b114_ .int (2 : Int32) (own_up (own_up (fun _ => (0 : Int32)) (0 : Int32) (1 : Int32)) (1 : Int32) (3 : Int32)) := own_T.set ⟨cl116_, Ar116_, Sz116_, Nn116_, Hh116_⟩ W116_ ⟨by decide, by decide⟩
    have K116_ := K115_.wr W116_ (Or.inr sz_b114_)
    have N116_ := Fr.snoc X116_ N115_ ge_b114_
    refine own_fin st116_ ?_
    show own_Fin pP eE below _ (T116_.setTop (mkF mM 187 #[.val (.int p1), .val (.int p2), .val (.int p3), .val (.int p4), .val (.int (10 : Int32)), .val (.int ev), .val (.int tv), .val (.int (0 : Int32)), .val (.int (1 : Int32)), .val (.int (0 : Int32)), .val (.int (1 : Int32)), .val (.int (2 : Int32)), .val (.ref b114_), .val (.int (1 : Int32)), .unset, .unset, .unset, .unset, .unset, .unset, .unset, .unset, .unset, .unset] []))
    refine own_fin (b := T116_.setTop (mkF mM 190 #[.val (.int p1), .val (.int p2), .val (.int p3), .val (.int p4), .val (.int (10 : Int32)), .val (.int ev), .val (.int tv), .val (.int (0 : Int32)), .val (.int (1 : Int32)), .val (.int (0 : Int32)), .val (.int (1 : Int32)), .val (.int (2 : Int32)), .val (.ref b114_), .val (.int (2 : Int32)), .unset, .unset, .unset, .unset, .unset, .unset, .unset, .unset, .unset, .unset] [])) (fun tT kK => ?_) ?_
    · show Steps pP.tables eE below (T116_.setTop (mkF mM 187 #[.val (.int p1), .val (.int p2), .val (.int p3), .val (.int p4), .val (.int (10 : Int32)), .val (.int ev), .val (.int tv), .val (.int (0 : Int32)), .val (.int (1 : Int32)), .val (.int (0 : Int32)), .val (.int (1 : Int32)), .val (.int (2 : Int32)), .val (.ref b114_), .val (.int (1 : Int32)), .unset, .unset, .unset, .unset, .unset, .unset, .unset, .unset, .unset, .unset] [])) tT
      refine XS.iinc X116_.here hx rfl (Jvm.hb hby at_187) rfl (l' := #[.val (.int p1), .val (.int p2), .val (.int p3), .val (.int p4), .val (.int (10 : Int32)), .val (.int ev), .val (.int tv), .val (.int (0 : Int32)), .val (.int (1 : Int32)), .val (.int (0 : Int32)), .val (.int (1 : Int32)), .val (.int (2 : Int32)), .val (.ref b114_), .val (.int (2 : Int32)), .unset, .unset, .unset, .unset, .unset, .unset, .unset, .unset, .unset, .unset]) rfl ?_
      exact kK
    show own_Fin pP eE below _ (T116_.setTop (mkF mM 190 #[.val (.int p1), .val (.int p2), .val (.int p3), .val (.int p4), .val (.int (10 : Int32)), .val (.int ev), .val (.int tv), .val (.int (0 : Int32)), .val (.int (1 : Int32)), .val (.int (0 : Int32)), .val (.int (1 : Int32)), .val (.int (2 : Int32)), .val (.ref b114_), .val (.int (2 : Int32)), .unset, .unset, .unset, .unset, .unset, .unset, .unset, .unset, .unset, .unset] []))
    exact jp1_ (0 : Int32) (1 : Int32) (0 : Int32) (1 : Int32) (2 : Int32) b114_ (own_up (own_up (fun _ => (0 : Int32)) (0 : Int32) (1 : Int32)) (1 : Int32) (3 : Int32)) _ _ _ _ own_St10 ge_b114_ X116_ e116_ K116_ U116_ N116_
  · show own_Fin pP eE below _ (s₁.setTop (mkF mM 23 #[.val (.int p1), .val (.int p2), .val (.int p3), .val (.int p4), .val (.int (11 : Int32)), .val (.int ev), .val (.int tv), .unset, .unset, .unset, .unset, .unset, .unset, .unset, .unset, .unset, .unset, .unset, .unset, .unset, .unset, .unset, .unset, .unset] []))
    refine own_fin (b := s₁.setTop (mkF mM 127 #[.val (.int p1), .val (.int p2), .val (.int p3), .val (.int p4), .val (.int (11 : Int32)), .val (.int ev), .val (.int tv), .val (.int (1 : Int32)), .val (.int (1 : Int32)), .val (.int (0 : Int32)), .val (.int (1 : Int32)), .val (.int (3 : Int32)), .unset, .unset, .unset, .unset, .unset, .unset, .unset, .unset, .unset, .unset, .unset, .unset] [(.int (3 : Int32))])) (fun tT kK => ?_) ?_
    · show Steps pP.tables eE below (s₁.setTop (mkF mM 23 #[.val (.int p1), .val (.int p2), .val (.int p3), .val (.int p4), .val (.int (11 : Int32)), .val (.int ev), .val (.int tv), .unset, .unset, .unset, .unset, .unset, .unset, .unset, .unset, .unset, .unset, .unset, .unset, .unset, .unset, .unset, .unset, .unset] [])) tT
      refine XS.iload X0.here hx rfl (Jvm.hb hby at_23) rfl ?_
      refine XS.iconst X0.here hx rfl (Jvm.hb hby at_25) ?_
      refine XS.iand X0.here hx rfl (Jvm.hb hby at_26) rfl ?_
      refine XS.ifNo X0.here hx rfl (Jvm.hb hby at_27) rfl ((if0 _ _).trans (feq ((by decide) : ¬ ((1 : Int32) = (0 : Int32)))).1) ?_
      refine XS.iconst X0.here hx rfl (Jvm.hb hby at_30) ?_
      refine XS.goto X0.here hx rfl (pc0 := 31) (pc' := 35) rfl (Jvm.hb hby at_31) (by decide) (by decide) ?_
      show Steps pP.tables eE below (s₁.setTop (mkF mM 35 #[.val (.int p1), .val (.int p2), .val (.int p3), .val (.int p4), .val (.int (11 : Int32)), .val (.int ev), .val (.int tv), .unset, .unset, .unset, .unset, .unset, .unset, .unset, .unset, .unset, .unset, .unset, .unset, .unset, .unset, .unset, .unset, .unset] [(.int (1 : Int32))])) tT
      refine XS.istore X0.here hx rfl (Jvm.hb hby at_35) rfl (l' := #[.val (.int p1), .val (.int p2), .val (.int p3), .val (.int p4), .val (.int (11 : Int32)), .val (.int ev), .val (.int tv), .val (.int (1 : Int32)), .unset, .unset, .unset, .unset, .unset, .unset, .unset, .unset, .unset, .unset, .unset, .unset, .unset, .unset, .unset, .unset]) rfl ?_
      refine XS.iload X0.here hx rfl (Jvm.hb hby at_37) rfl ?_
      refine XS.iconst X0.here hx rfl (Jvm.hb hby at_39) ?_
      refine XS.iand X0.here hx rfl (Jvm.hb hby at_40) rfl ?_
      refine XS.ifNo X0.here hx rfl (Jvm.hb hby at_41) rfl ((if0 _ _).trans (feq ((by decide) : ¬ ((2 : Int32) = (0 : Int32)))).1) ?_
      refine XS.iconst X0.here hx rfl (Jvm.hb hby at_44) ?_
      show Steps pP.tables eE below (s₁.setTop (mkF mM 45 #[.val (.int p1), .val (.int p2), .val (.int p3), .val (.int p4), .val (.int (11 : Int32)), .val (.int ev), .val (.int tv), .val (.int (1 : Int32)), .unset, .unset, .unset, .unset, .unset, .unset, .unset, .unset, .unset, .unset, .unset, .unset, .unset, .unset, .unset, .unset] [(.int (1 : Int32))])) tT
      refine XS.goto X0.here hx rfl (pc0 := 45) (pc' := 49) rfl (Jvm.hb hby at_45) (by decide) (by decide) ?_
      refine XS.istore X0.here hx rfl (Jvm.hb hby at_49) rfl (l' := #[.val (.int p1), .val (.int p2), .val (.int p3), .val (.int p4), .val (.int (11 : Int32)), .val (.int ev), .val (.int tv), .val (.int (1 : Int32)), .val (.int (1 : Int32)), .unset, .unset, .unset, .unset, .unset, .unset, .unset, .unset, .unset, .unset, .unset, .unset, .unset, .unset, .unset]) rfl ?_
      refine XS.iload X0.here hx rfl (Jvm.hb hby at_51) rfl ?_
      refine XS.iconst X0.here hx rfl (Jvm.hb hby at_53) ?_
      refine XS.iand X0.here hx rfl (Jvm.hb hby at_54) rfl ?_
      refine XS.ifYes X0.here hx rfl (pc0 := 55) (pc' := 62) rfl (Jvm.hb hby at_55) rfl ((if0 _ _).trans (teq ((by decide) : (0 : Int32) = (0 : Int32))).1) (by decide) (by decide) ?_
      show Steps pP.tables eE below (s₁.setTop (mkF mM 62 #[.val (.int p1), .val (.int p2), .val (.int p3), .val (.int p4), .val (.int (11 : Int32)), .val (.int ev), .val (.int tv), .val (.int (1 : Int32)), .val (.int (1 : Int32)), .unset, .unset, .unset, .unset, .unset, .unset, .unset, .unset, .unset, .unset, .unset, .unset, .unset, .unset, .unset] [])) tT
      refine XS.iconst X0.here hx rfl (Jvm.hb hby at_62) ?_
      refine XS.istore X0.here hx rfl (Jvm.hb hby at_63) rfl (l' := #[.val (.int p1), .val (.int p2), .val (.int p3), .val (.int p4), .val (.int (11 : Int32)), .val (.int ev), .val (.int tv), .val (.int (1 : Int32)), .val (.int (1 : Int32)), .val (.int (0 : Int32)), .unset, .unset, .unset, .unset, .unset, .unset, .unset, .unset, .unset, .unset, .unset, .unset, .unset, .unset]) rfl ?_
      refine XS.iload X0.here hx rfl (Jvm.hb hby at_65) rfl ?_
      refine XS.bipush X0.here hx rfl (Jvm.hb hby at_67) ?_
      refine XS.iand X0.here hx rfl (Jvm.hb hby at_69) rfl ?_
      refine XS.ifNo X0.here hx rfl (Jvm.hb hby at_70) rfl ((if0 _ _).trans (feq ((by decide) : ¬ ((8 : Int32) = (0 : Int32)))).1) ?_
      show Steps pP.tables eE below (s₁.setTop (mkF mM 73 #[.val (.int p1), .val (.int p2), .val (.int p3), .val (.int p4), .val (.int (11 : Int32)), .val (.int ev), .val (.int tv), .val (.int (1 : Int32)), .val (.int (1 : Int32)), .val (.int (0 : Int32)), .unset, .unset, .unset, .unset, .unset, .unset, .unset, .unset, .unset, .unset, .unset, .unset, .unset, .unset] [])) tT
      refine XS.iconst X0.here hx rfl (Jvm.hb hby at_73) ?_
      refine XS.goto X0.here hx rfl (pc0 := 74) (pc' := 78) rfl (Jvm.hb hby at_74) (by decide) (by decide) ?_
      refine XS.istore X0.here hx rfl (Jvm.hb hby at_78) rfl (l' := #[.val (.int p1), .val (.int p2), .val (.int p3), .val (.int p4), .val (.int (11 : Int32)), .val (.int ev), .val (.int tv), .val (.int (1 : Int32)), .val (.int (1 : Int32)), .val (.int (0 : Int32)), .val (.int (1 : Int32)), .unset, .unset, .unset, .unset, .unset, .unset, .unset, .unset, .unset, .unset, .unset, .unset, .unset]) rfl ?_
      refine XS.iload X0.here hx rfl (Jvm.hb hby at_80) rfl ?_
      refine XS.ifNo X0.here hx rfl (Jvm.hb hby at_82) rfl ((if0 _ _).trans (feq ((by decide) : ¬ ((1 : Int32) = (0 : Int32)))).1) ?_
      refine XS.iconst X0.here hx rfl (Jvm.hb hby at_85) ?_
      show Steps pP.tables eE below (s₁.setTop (mkF mM 86 #[.val (.int p1), .val (.int p2), .val (.int p3), .val (.int p4), .val (.int (11 : Int32)), .val (.int ev), .val (.int tv), .val (.int (1 : Int32)), .val (.int (1 : Int32)), .val (.int (0 : Int32)), .val (.int (1 : Int32)), .unset, .unset, .unset, .unset, .unset, .unset, .unset, .unset, .unset, .unset, .unset, .unset, .unset] [(.int (1 : Int32))])) tT
      refine XS.goto X0.here hx rfl (pc0 := 86) (pc' := 90) rfl (Jvm.hb hby at_86) (by decide) (by decide) ?_
      refine XS.iload X0.here hx rfl (Jvm.hb hby at_90) rfl ?_
      refine XS.ifNo X0.here hx rfl (Jvm.hb hby at_92) rfl ((if0 _ _).trans (feq ((by decide) : ¬ ((1 : Int32) = (0 : Int32)))).1) ?_
      refine XS.iconst X0.here hx rfl (Jvm.hb hby at_95) ?_
      refine XS.goto X0.here hx rfl (pc0 := 96) (pc' := 100) rfl (Jvm.hb hby at_96) (by decide) (by decide) ?_
      refine XS.iadd X0.here hx rfl (Jvm.hb hby at_100) rfl ?_
      show Steps pP.tables eE below (s₁.setTop (mkF mM 101 #[.val (.int p1), .val (.int p2), .val (.int p3), .val (.int p4), .val (.int (11 : Int32)), .val (.int ev), .val (.int tv), .val (.int (1 : Int32)), .val (.int (1 : Int32)), .val (.int (0 : Int32)), .val (.int (1 : Int32)), .unset, .unset, .unset, .unset, .unset, .unset, .unset, .unset, .unset, .unset, .unset, .unset, .unset] [(.int (2 : Int32))])) tT
      refine XS.iload X0.here hx rfl (Jvm.hb hby at_101) rfl ?_
      refine XS.ifYes X0.here hx rfl (pc0 := 103) (pc' := 110) rfl (Jvm.hb hby at_103) rfl ((if0 _ _).trans (teq ((by decide) : (0 : Int32) = (0 : Int32))).1) (by decide) (by decide) ?_
      refine XS.iconst X0.here hx rfl (Jvm.hb hby at_110) ?_
      refine XS.iadd X0.here hx rfl (Jvm.hb hby at_111) rfl ?_
      refine XS.iload X0.here hx rfl (Jvm.hb hby at_112) rfl ?_
      refine XS.ifNo X0.here hx rfl (Jvm.hb hby at_114) rfl ((if0 _ _).trans (feq ((by decide) : ¬ ((1 : Int32) = (0 : Int32)))).1) ?_
      show Steps pP.tables eE below (s₁.setTop (mkF mM 117 #[.val (.int p1), .val (.int p2), .val (.int p3), .val (.int p4), .val (.int (11 : Int32)), .val (.int ev), .val (.int tv), .val (.int (1 : Int32)), .val (.int (1 : Int32)), .val (.int (0 : Int32)), .val (.int (1 : Int32)), .unset, .unset, .unset, .unset, .unset, .unset, .unset, .unset, .unset, .unset, .unset, .unset, .unset] [(.int (2 : Int32))])) tT
      refine XS.iconst X0.here hx rfl (Jvm.hb hby at_117) ?_
      refine XS.goto X0.here hx rfl (pc0 := 118) (pc' := 122) rfl (Jvm.hb hby at_118) (by decide) (by decide) ?_
      refine XS.iadd X0.here hx rfl (Jvm.hb hby at_122) rfl ?_
      refine XS.istore X0.here hx rfl (Jvm.hb hby at_123) rfl (l' := #[.val (.int p1), .val (.int p2), .val (.int p3), .val (.int p4), .val (.int (11 : Int32)), .val (.int ev), .val (.int tv), .val (.int (1 : Int32)), .val (.int (1 : Int32)), .val (.int (0 : Int32)), .val (.int (1 : Int32)), .val (.int (3 : Int32)), .unset, .unset, .unset, .unset, .unset, .unset, .unset, .unset, .unset, .unset, .unset, .unset]) rfl ?_
      refine XS.iload X0.here hx rfl (Jvm.hb hby at_125) rfl ?_
      exact kK
    obtain ⟨T117_, h117_, k117_, X117_, e117_, E117_, A117_, st117_⟩ := newP X0 hx hZ (hw _ (List.mem_of_getElem? (i := 1) rfl)) e0 (g := (mkF mM 127 #[.val (.int p1), .val (.int p2), .val (.int p3), .val (.int p4), .val (.int (11 : Int32)), .val (.int ev), .val (.int tv), .val (.int (1 : Int32)), .val (.int (1 : Int32)), .val (.int (0 : Int32)), .val (.int (1 : Int32)), .val (.int (3 : Int32)), .unset, .unset, .unset, .unset, .unset, .unset, .unset, .unset, .unset, .unset, .unset, .unset] [(.int (3 : Int32))])) rfl (Jvm.hb hby at_127) rfl (by decide) (cap := 4) (by decide) (by decide) (by decide) (by decide)
    obtain ⟨b117_, g117_⟩ : ∃ z, z = h0.size := ⟨_, rfl⟩
    rw [← g117_] at A117_ st117_
    have sz_b117_ : h0.size ≤ b117_ := Nat.le_trans K0.1 (Nat.le_of_eq g117_.symm)
    have ge_b117_ : n0 ≤ b117_ := Nat.le_trans Z0 sz_b117_
    have K117_ := K0.ext E117_
    have V117_ : own_T Z h117_ b117_ .int (3 : Int32) (fun _ => (0 : Int32)) := own_T.new A117_ (by decide) rfl
    refine own_fin st117_ ?_
    show own_Fin pP eE below _ (T117_.setTop (mkF mM 129 #[.val (.int p1), .val (.int p2), .val (.int p3), .val (.int p4), .val (.int (11 : Int32)), .val (.int ev), .val (.int tv), .val (.int (1 : Int32)), .val (.int (1 : Int32)), .val (.int (0 : Int32)), .val (.int (1 : Int32)), .val (.int (3 : Int32)), .unset, .unset, .unset, .unset, .unset, .unset, .unset, .unset, .unset, .unset, .unset, .unset] [(.ref b117_)]))
    refine own_fin (b := T117_.setTop (mkF mM 144 #[.val (.int p1), .val (.int p2), .val (.int p3), .val (.int p4), .val (.int (11 : Int32)), .val (.int ev), .val (.int tv), .val (.int (1 : Int32)), .val (.int (1 : Int32)), .val (.int (0 : Int32)), .val (.int (1 : Int32)), .val (.int (3 : Int32)), .val (.ref b117_), .val (.int (0 : Int32)), .unset, .unset, .unset, .unset, .unset, .unset, .unset, .unset, .unset, .unset] [(.int (0 : Int32)), (.int (0 : Int32)), (.ref b117_)])) (fun tT kK => ?_) ?_
    · show Steps pP.tables eE below (T117_.setTop (mkF mM 129 #[.val (.int p1), .val (.int p2), .val (.int p3), .val (.int p4), .val (.int (11 : Int32)), .val (.int ev), .val (.int tv), .val (.int (1 : Int32)), .val (.int (1 : Int32)), .val (.int (0 : Int32)), .val (.int (1 : Int32)), .val (.int (3 : Int32)), .unset, .unset, .unset, .unset, .unset, .unset, .unset, .unset, .unset, .unset, .unset, .unset] [(.ref b117_)])) tT
      refine XS.astore X117_.here hx rfl (Jvm.hb hby at_129) rfl rfl (l' := #[.val (.int p1), .val (.int p2), .val (.int p3), .val (.int p4), .val (.int (11 : Int32)), .val (.int ev), .val (.int tv), .val (.int (1 : Int32)), .val (.int (1 : Int32)), .val (.int (0 : Int32)), .val (.int (1 : Int32)), .val (.int (3 : Int32)), .val (.ref b117_), .unset, .unset, .unset, .unset, .unset, .unset, .unset, .unset, .unset, .unset, .unset]) rfl ?_
      show Steps pP.tables eE below (T117_.setTop (mkF mM 131 #[.val (.int p1), .val (.int p2), .val (.int p3), .val (.int p4), .val (.int (11 : Int32)), .val (.int ev), .val (.int tv), .val (.int (1 : Int32)), .val (.int (1 : Int32)), .val (.int (0 : Int32)), .val (.int (1 : Int32)), .val (.int (3 : Int32)), .val (.ref b117_), .unset, .unset, .unset, .unset, .unset, .unset, .unset, .unset, .unset, .unset, .unset] [])) tT
      refine XS.iconst X117_.here hx rfl (Jvm.hb hby at_131) ?_
      refine XS.istore X117_.here hx rfl (Jvm.hb hby at_132) rfl (l' := #[.val (.int p1), .val (.int p2), .val (.int p3), .val (.int p4), .val (.int (11 : Int32)), .val (.int ev), .val (.int tv), .val (.int (1 : Int32)), .val (.int (1 : Int32)), .val (.int (0 : Int32)), .val (.int (1 : Int32)), .val (.int (3 : Int32)), .val (.ref b117_), .val (.int (0 : Int32)), .unset, .unset, .unset, .unset, .unset, .unset, .unset, .unset, .unset, .unset]) rfl ?_
      refine XS.iload X117_.here hx rfl (Jvm.hb hby at_134) rfl ?_
      refine XS.ifNo X117_.here hx rfl (Jvm.hb hby at_136) rfl ((if0 _ _).trans (feq ((by decide) : ¬ ((1 : Int32) = (0 : Int32)))).1) ?_
      refine XS.aload X117_.here hx rfl (Jvm.hb hby at_139) rfl rfl ?_
      refine XS.iload X117_.here hx rfl (Jvm.hb hby at_141) rfl ?_
      show Steps pP.tables eE below (T117_.setTop (mkF mM 143 #[.val (.int p1), .val (.int p2), .val (.int p3), .val (.int p4), .val (.int (11 : Int32)), .val (.int ev), .val (.int tv), .val (.int (1 : Int32)), .val (.int (1 : Int32)), .val (.int (0 : Int32)), .val (.int (1 : Int32)), .val (.int (3 : Int32)), .val (.ref b117_), .val (.int (0 : Int32)), .unset, .unset, .unset, .unset, .unset, .unset, .unset, .unset, .unset, .unset] [(.int (0 : Int32)), (.ref b117_)])) tT
      refine XS.iconst X117_.here hx rfl (Jvm.hb hby at_143) ?_
      exact kK
    obtain ⟨cl118_, Ar118_, Sz118_, Nn118_, Hh118_⟩ := id V117_
    have hin118_ : ¬ ((0 : Int32) < 0 ∨ cl118_.slots.size ≤ ((0 : Int32)).toNatClampNeg) := inb_of Sz118_ ⟨by decide, by decide⟩
    obtain ⟨T118_, h118_, X118_, e118_, W118_, st118_⟩ := stI X117_ hx hZ e117_ Ar118_ (j := (0 : Int32)) hin118_ (g := (mkF mM 144 #[.val (.int p1), .val (.int p2), .val (.int p3), .val (.int p4), .val (.int (11 : Int32)), .val (.int ev), .val (.int tv), .val (.int (1 : Int32)), .val (.int (1 : Int32)), .val (.int (0 : Int32)), .val (.int (1 : Int32)), .val (.int (3 : Int32)), .val (.ref b117_), .val (.int (0 : Int32)), .unset, .unset, .unset, .unset, .unset, .unset, .unset, .unset, .unset, .unset] [(.int (0 : Int32)), (.int (0 : Int32)), (.ref b117_)])) rfl rfl (Jvm.hb hby at_144)
    have U118_ : own_T Z h118_ b117_ .int (3 : Int32) (own_up (fun _ => (0 : Int32)) (0 : Int32) (0 : Int32)) := own_T.set ⟨cl118_, Ar118_, Sz118_, Nn118_, Hh118_⟩ W118_ ⟨by decide, by decide⟩
    have K118_ := K117_.wr W118_ (Or.inr sz_b117_)
    have N118_ := Fr.snoc X118_ N0 ge_b117_
    refine own_fin st118_ ?_
    show own_Fin pP eE below _ (T118_.setTop (mkF mM 145 #[.val (.int p1), .val (.int p2), .val (.int p3), .val (.int p4), .val (.int (11 : Int32)), .val (.int ev), .val (.int tv), .val (.int (1 : Int32)), .val (.int (1 : Int32)), .val (.int (0 : Int32)), .val (.int (1 : Int32)), .val (.int (3 : Int32)), .val (.ref b117_), .val (.int (0 : Int32)), .unset, .unset, .unset, .unset, .unset, .unset, .unset, .unset, .unset, .unset] []))
    refine own_fin (b := T118_.setTop (mkF mM 158 #[.val (.int p1), .val (.int p2), .val (.int p3), .val (.int p4), .val (.int (11 : Int32)), .val (.int ev), .val (.int tv), .val (.int (1 : Int32)), .val (.int (1 : Int32)), .val (.int (0 : Int32)), .val (.int (1 : Int32)), .val (.int (3 : Int32)), .val (.ref b117_), .val (.int (1 : Int32)), .unset, .unset, .unset, .unset, .unset, .unset, .unset, .unset, .unset, .unset] [(.int (1 : Int32)), (.int (1 : Int32)), (.ref b117_)])) (fun tT kK => ?_) ?_
    · show Steps pP.tables eE below (T118_.setTop (mkF mM 145 #[.val (.int p1), .val (.int p2), .val (.int p3), .val (.int p4), .val (.int (11 : Int32)), .val (.int ev), .val (.int tv), .val (.int (1 : Int32)), .val (.int (1 : Int32)), .val (.int (0 : Int32)), .val (.int (1 : Int32)), .val (.int (3 : Int32)), .val (.ref b117_), .val (.int (0 : Int32)), .unset, .unset, .unset, .unset, .unset, .unset, .unset, .unset, .unset, .unset] [])) tT
      refine XS.iinc X118_.here hx rfl (Jvm.hb hby at_145) rfl (l' := #[.val (.int p1), .val (.int p2), .val (.int p3), .val (.int p4), .val (.int (11 : Int32)), .val (.int ev), .val (.int tv), .val (.int (1 : Int32)), .val (.int (1 : Int32)), .val (.int (0 : Int32)), .val (.int (1 : Int32)), .val (.int (3 : Int32)), .val (.ref b117_), .val (.int (1 : Int32)), .unset, .unset, .unset, .unset, .unset, .unset, .unset, .unset, .unset, .unset]) rfl ?_
      refine XS.iload X118_.here hx rfl (Jvm.hb hby at_148) rfl ?_
      refine XS.ifNo X118_.here hx rfl (Jvm.hb hby at_150) rfl ((if0 _ _).trans (feq ((by decide) : ¬ ((1 : Int32) = (0 : Int32)))).1) ?_
      refine XS.aload X118_.here hx rfl (Jvm.hb hby at_153) rfl rfl ?_
      refine XS.iload X118_.here hx rfl (Jvm.hb hby at_155) rfl ?_
      show Steps pP.tables eE below (T118_.setTop (mkF mM 157 #[.val (.int p1), .val (.int p2), .val (.int p3), .val (.int p4), .val (.int (11 : Int32)), .val (.int ev), .val (.int tv), .val (.int (1 : Int32)), .val (.int (1 : Int32)), .val (.int (0 : Int32)), .val (.int (1 : Int32)), .val (.int (3 : Int32)), .val (.ref b117_), .val (.int (1 : Int32)), .unset, .unset, .unset, .unset, .unset, .unset, .unset, .unset, .unset, .unset] [(.int (1 : Int32)), (.ref b117_)])) tT
      refine XS.iconst X118_.here hx rfl (Jvm.hb hby at_157) ?_
      exact kK
    obtain ⟨cl119_, Ar119_, Sz119_, Nn119_, Hh119_⟩ := id U118_
    have hin119_ : ¬ ((1 : Int32) < 0 ∨ cl119_.slots.size ≤ ((1 : Int32)).toNatClampNeg) := inb_of Sz119_ ⟨by decide, by decide⟩
    obtain ⟨T119_, h119_, X119_, e119_, W119_, st119_⟩ := stI X118_ hx hZ e118_ Ar119_ (j := (1 : Int32)) hin119_ (g := (mkF mM 158 #[.val (.int p1), .val (.int p2), .val (.int p3), .val (.int p4), .val (.int (11 : Int32)), .val (.int ev), .val (.int tv), .val (.int (1 : Int32)), .val (.int (1 : Int32)), .val (.int (0 : Int32)), .val (.int (1 : Int32)), .val (.int (3 : Int32)), .val (.ref b117_), .val (.int (1 : Int32)), .unset, .unset, .unset, .unset, .unset, .unset, .unset, .unset, .unset, .unset] [(.int (1 : Int32)), (.int (1 : Int32)), (.ref b117_)])) rfl rfl (Jvm.hb hby at_158)
    have U119_ : own_T Z h119_ b117_ .int (3 : Int32) (own_up (own_up (fun _ => (0 : Int32)) (0 : Int32) (0 : Int32)) (1 : Int32) (1 : Int32)) := own_T.set ⟨cl119_, Ar119_, Sz119_, Nn119_, Hh119_⟩ W119_ ⟨by decide, by decide⟩
    have K119_ := K118_.wr W119_ (Or.inr sz_b117_)
    have N119_ := Fr.snoc X119_ N118_ ge_b117_
    refine own_fin st119_ ?_
    show own_Fin pP eE below _ (T119_.setTop (mkF mM 159 #[.val (.int p1), .val (.int p2), .val (.int p3), .val (.int p4), .val (.int (11 : Int32)), .val (.int ev), .val (.int tv), .val (.int (1 : Int32)), .val (.int (1 : Int32)), .val (.int (0 : Int32)), .val (.int (1 : Int32)), .val (.int (3 : Int32)), .val (.ref b117_), .val (.int (1 : Int32)), .unset, .unset, .unset, .unset, .unset, .unset, .unset, .unset, .unset, .unset] []))
    refine own_fin (b := T119_.setTop (mkF mM 186 #[.val (.int p1), .val (.int p2), .val (.int p3), .val (.int p4), .val (.int (11 : Int32)), .val (.int ev), .val (.int tv), .val (.int (1 : Int32)), .val (.int (1 : Int32)), .val (.int (0 : Int32)), .val (.int (1 : Int32)), .val (.int (3 : Int32)), .val (.ref b117_), .val (.int (2 : Int32)), .unset, .unset, .unset, .unset, .unset, .unset, .unset, .unset, .unset, .unset] [(.int (3 : Int32)), (.int (2 : Int32)), (.ref b117_)])) (fun tT kK => ?_) ?_
    · show Steps pP.tables eE below (T119_.setTop (mkF mM 159 #[.val (.int p1), .val (.int p2), .val (.int p3), .val (.int p4), .val (.int (11 : Int32)), .val (.int ev), .val (.int tv), .val (.int (1 : Int32)), .val (.int (1 : Int32)), .val (.int (0 : Int32)), .val (.int (1 : Int32)), .val (.int (3 : Int32)), .val (.ref b117_), .val (.int (1 : Int32)), .unset, .unset, .unset, .unset, .unset, .unset, .unset, .unset, .unset, .unset] [])) tT
      refine XS.iinc X119_.here hx rfl (Jvm.hb hby at_159) rfl (l' := #[.val (.int p1), .val (.int p2), .val (.int p3), .val (.int p4), .val (.int (11 : Int32)), .val (.int ev), .val (.int tv), .val (.int (1 : Int32)), .val (.int (1 : Int32)), .val (.int (0 : Int32)), .val (.int (1 : Int32)), .val (.int (3 : Int32)), .val (.ref b117_), .val (.int (2 : Int32)), .unset, .unset, .unset, .unset, .unset, .unset, .unset, .unset, .unset, .unset]) rfl ?_
      refine XS.iload X119_.here hx rfl (Jvm.hb hby at_162) rfl ?_
      refine XS.ifYes X119_.here hx rfl (pc0 := 164) (pc' := 176) rfl (Jvm.hb hby at_164) rfl ((if0 _ _).trans (teq ((by decide) : (0 : Int32) = (0 : Int32))).1) (by decide) (by decide) ?_
      refine XS.iload X119_.here hx rfl (Jvm.hb hby at_176) rfl ?_
      refine XS.ifNo X119_.here hx rfl (Jvm.hb hby at_178) rfl ((if0 _ _).trans (feq ((by decide) : ¬ ((1 : Int32) = (0 : Int32)))).1) ?_
      show Steps pP.tables eE below (T119_.setTop (mkF mM 181 #[.val (.int p1), .val (.int p2), .val (.int p3), .val (.int p4), .val (.int (11 : Int32)), .val (.int ev), .val (.int tv), .val (.int (1 : Int32)), .val (.int (1 : Int32)), .val (.int (0 : Int32)), .val (.int (1 : Int32)), .val (.int (3 : Int32)), .val (.ref b117_), .val (.int (2 : Int32)), .unset, .unset, .unset, .unset, .unset, .unset, .unset, .unset, .unset, .unset] [])) tT
      refine XS.aload X119_.here hx rfl (Jvm.hb hby at_181) rfl rfl ?_
      refine XS.iload X119_.here hx rfl (Jvm.hb hby at_183) rfl ?_
      refine XS.iconst X119_.here hx rfl (Jvm.hb hby at_185) ?_
      exact kK
    obtain ⟨cl120_, Ar120_, Sz120_, Nn120_, Hh120_⟩ := id U119_
    have hin120_ : ¬ ((2 : Int32) < 0 ∨ cl120_.slots.size ≤ ((2 : Int32)).toNatClampNeg) := inb_of Sz120_ ⟨by decide, by decide⟩
    obtain ⟨T120_, h120_, X120_, e120_, W120_, st120_⟩ := stI X119_ hx hZ e119_ Ar120_ (j := (2 : Int32)) hin120_ (g := (mkF mM 186 #[.val (.int p1), .val (.int p2), .val (.int p3), .val (.int p4), .val (.int (11 : Int32)), .val (.int ev), .val (.int tv), .val (.int (1 : Int32)), .val (.int (1 : Int32)), .val (.int (0 : Int32)), .val (.int (1 : Int32)), .val (.int (3 : Int32)), .val (.ref b117_), .val (.int (2 : Int32)), .unset, .unset, .unset, .unset, .unset, .unset, .unset, .unset, .unset, .unset] [(.int (3 : Int32)), (.int (2 : Int32)), (.ref b117_)])) rfl rfl (Jvm.hb hby at_186)
    have U120_ : own_T Z h120_ b117_ .int (3 : Int32) (own_up (own_up (own_up (fun _ => (0 : Int32)) (0 : Int32) (0 : Int32)) (1 : Int32) (1 : Int32)) (2 : Int32) (3 : Int32)) := own_T.set ⟨cl120_, Ar120_, Sz120_, Nn120_, Hh120_⟩ W120_ ⟨by decide, by decide⟩
    have K120_ := K119_.wr W120_ (Or.inr sz_b117_)
    have N120_ := Fr.snoc X120_ N119_ ge_b117_
    refine own_fin st120_ ?_
    show own_Fin pP eE below _ (T120_.setTop (mkF mM 187 #[.val (.int p1), .val (.int p2), .val (.int p3), .val (.int p4), .val (.int (11 : Int32)), .val (.int ev), .val (.int tv), .val (.int (1 : Int32)), .val (.int (1 : Int32)), .val (.int (0 : Int32)), .val (.int (1 : Int32)), .val (.int (3 : Int32)), .val (.ref b117_), .val (.int (2 : Int32)), .unset, .unset, .unset, .unset, .unset, .unset, .unset, .unset, .unset, .unset] []))
    refine own_fin (b := T120_.setTop (mkF mM 190 #[.val (.int p1), .val (.int p2), .val (.int p3), .val (.int p4), .val (.int (11 : Int32)), .val (.int ev), .val (.int tv), .val (.int (1 : Int32)), .val (.int (1 : Int32)), .val (.int (0 : Int32)), .val (.int (1 : Int32)), .val (.int (3 : Int32)), .val (.ref b117_), .val (.int (3 : Int32)), .unset, .unset, .unset, .unset, .unset, .unset, .unset, .unset, .unset, .unset] [])) (fun tT kK => ?_) ?_
    · show Steps pP.tables eE below (T120_.setTop (mkF mM 187 #[.val (.int p1), .val (.int p2), .val (.int p3), .val (.int p4), .val (.int (11 : Int32)), .val (.int ev), .val (.int tv), .val (.int (1 : Int32)), .val (.int (1 : Int32)), .val (.int (0 : Int32)), .val (.int (1 : Int32)), .val (.int (3 : Int32)), .val (.ref b117_), .val (.int (2 : Int32)), .unset, .unset, .unset, .unset, .unset, .unset, .unset, .unset, .unset, .unset] [])) tT
      refine XS.iinc X120_.here hx rfl (Jvm.hb hby at_187) rfl (l' := #[.val (.int p1), .val (.int p2), .val (.int p3), .val (.int p4), .val (.int (11 : Int32)), .val (.int ev), .val (.int tv), .val (.int (1 : Int32)), .val (.int (1 : Int32)), .val (.int (0 : Int32)), .val (.int (1 : Int32)), .val (.int (3 : Int32)), .val (.ref b117_), .val (.int (3 : Int32)), .unset, .unset, .unset, .unset, .unset, .unset, .unset, .unset, .unset, .unset]) rfl ?_
      exact kK
    show own_Fin pP eE below _ (T120_.setTop (mkF mM 190 #[.val (.int p1), .val (.int p2), .val (.int p3), .val (.int p4), .val (.int (11 : Int32)), .val (.int ev), .val (.int tv), .val (.int (1 : Int32)), .val (.int (1 : Int32)), .val (.int (0 : Int32)), .val (.int (1 : Int32)), .val (.int (3 : Int32)), .val (.ref b117_), .val (.int (3 : Int32)), .unset, .unset, .unset, .unset, .unset, .unset, .unset, .unset, .unset, .unset] []))
    exact jp1_ (1 : Int32) (1 : Int32) (0 : Int32) (1 : Int32) (3 : Int32) b117_ (own_up (own_up (own_up (fun _ => (0 : Int32)) (0 : Int32) (0 : Int32)) (1 : Int32) (1 : Int32)) (2 : Int32) (3 : Int32)) _ _ _ _ own_St11 ge_b117_ X120_ e120_ K120_ U120_ N120_
  · show own_Fin pP eE below _ (s₁.setTop (mkF mM 23 #[.val (.int p1), .val (.int p2), .val (.int p3), .val (.int p4), .val (.int (12 : Int32)), .val (.int ev), .val (.int tv), .unset, .unset, .unset, .unset, .unset, .unset, .unset, .unset, .unset, .unset, .unset, .unset, .unset, .unset, .unset, .unset, .unset] []))
    refine own_fin (b := s₁.setTop (mkF mM 127 #[.val (.int p1), .val (.int p2), .val (.int p3), .val (.int p4), .val (.int (12 : Int32)), .val (.int ev), .val (.int tv), .val (.int (0 : Int32)), .val (.int (0 : Int32)), .val (.int (1 : Int32)), .val (.int (1 : Int32)), .val (.int (2 : Int32)), .unset, .unset, .unset, .unset, .unset, .unset, .unset, .unset, .unset, .unset, .unset, .unset] [(.int (2 : Int32))])) (fun tT kK => ?_) ?_
    · show Steps pP.tables eE below (s₁.setTop (mkF mM 23 #[.val (.int p1), .val (.int p2), .val (.int p3), .val (.int p4), .val (.int (12 : Int32)), .val (.int ev), .val (.int tv), .unset, .unset, .unset, .unset, .unset, .unset, .unset, .unset, .unset, .unset, .unset, .unset, .unset, .unset, .unset, .unset, .unset] [])) tT
      refine XS.iload X0.here hx rfl (Jvm.hb hby at_23) rfl ?_
      refine XS.iconst X0.here hx rfl (Jvm.hb hby at_25) ?_
      refine XS.iand X0.here hx rfl (Jvm.hb hby at_26) rfl ?_
      refine XS.ifYes X0.here hx rfl (pc0 := 27) (pc' := 34) rfl (Jvm.hb hby at_27) rfl ((if0 _ _).trans (teq ((by decide) : (0 : Int32) = (0 : Int32))).1) (by decide) (by decide) ?_
      refine XS.iconst X0.here hx rfl (Jvm.hb hby at_34) ?_
      refine XS.istore X0.here hx rfl (Jvm.hb hby at_35) rfl (l' := #[.val (.int p1), .val (.int p2), .val (.int p3), .val (.int p4), .val (.int (12 : Int32)), .val (.int ev), .val (.int tv), .val (.int (0 : Int32)), .unset, .unset, .unset, .unset, .unset, .unset, .unset, .unset, .unset, .unset, .unset, .unset, .unset, .unset, .unset, .unset]) rfl ?_
      show Steps pP.tables eE below (s₁.setTop (mkF mM 37 #[.val (.int p1), .val (.int p2), .val (.int p3), .val (.int p4), .val (.int (12 : Int32)), .val (.int ev), .val (.int tv), .val (.int (0 : Int32)), .unset, .unset, .unset, .unset, .unset, .unset, .unset, .unset, .unset, .unset, .unset, .unset, .unset, .unset, .unset, .unset] [])) tT
      refine XS.iload X0.here hx rfl (Jvm.hb hby at_37) rfl ?_
      refine XS.iconst X0.here hx rfl (Jvm.hb hby at_39) ?_
      refine XS.iand X0.here hx rfl (Jvm.hb hby at_40) rfl ?_
      refine XS.ifYes X0.here hx rfl (pc0 := 41) (pc' := 48) rfl (Jvm.hb hby at_41) rfl ((if0 _ _).trans (teq ((by decide) : (0 : Int32) = (0 : Int32))).1) (by decide) (by decide) ?_
      refine XS.iconst X0.here hx rfl (Jvm.hb hby at_48) ?_
      refine XS.istore X0.here hx rfl (Jvm.hb hby at_49) rfl (l' := #[.val (.int p1), .val (.int p2), .val (.int p3), .val (.int p4), .val (.int (12 : Int32)), .val (.int ev), .val (.int tv), .val (.int (0 : Int32)), .val (.int (0 : Int32)), .unset, .unset, .unset, .unset, .unset, .unset, .unset, .unset, .unset, .unset, .unset, .unset, .unset, .unset, .unset]) rfl ?_
      show Steps pP.tables eE below (s₁.setTop (mkF mM 51 #[.val (.int p1), .val (.int p2), .val (.int p3), .val (.int p4), .val (.int (12 : Int32)), .val (.int ev), .val (.int tv), .val (.int (0 : Int32)), .val (.int (0 : Int32)), .unset, .unset, .unset, .unset, .unset, .unset, .unset, .unset, .unset, .unset, .unset, .unset, .unset, .unset, .unset] [])) tT
      refine XS.iload X0.here hx rfl (Jvm.hb hby at_51) rfl ?_
      refine XS.iconst X0.here hx rfl (Jvm.hb hby at_53) ?_
      refine XS.iand X0.here hx rfl (Jvm.hb hby at_54) rfl ?_
      refine XS.ifNo X0.here hx rfl (Jvm.hb hby at_55) rfl ((if0 _ _).trans (feq ((by decide) : ¬ ((4 : Int32) = (0 : Int32)))).1) ?_
      refine XS.iconst X0.here hx rfl (Jvm.hb hby at_58) ?_
      refine XS.goto X0.here hx rfl (pc0 := 59) (pc' := 63) rfl (Jvm.hb hby at_59) (by decide) (by decide) ?_
      show Steps pP.tables eE below (s₁.setTop (mkF mM 63 #[.val (.int p1), .val (.int p2), .val (.int p3), .val (.int p4), .val (.int (12 : Int32)), .val (.int ev), .val (.int tv), .val (.int (0 : Int32)), .val (.int (0 : Int32)), .unset, .unset, .unset, .unset, .unset, .unset, .unset, .unset, .unset, .unset, .unset, .unset, .unset, .unset, .unset] [(.int (1 : Int32))])) tT
      refine XS.istore X0.here hx rfl (Jvm.hb hby at_63) rfl (l' := #[.val (.int p1), .val (.int p2), .val (.int p3), .val (.int p4), .val (.int (12 : Int32)), .val (.int ev), .val (.int tv), .val (.int (0 : Int32)), .val (.int (0 : Int32)), .val (.int (1 : Int32)), .unset, .unset, .unset, .unset, .unset, .unset, .unset, .unset, .unset, .unset, .unset, .unset, .unset, .unset]) rfl ?_
      refine XS.iload X0.here hx rfl (Jvm.hb hby at_65) rfl ?_
      refine XS.bipush X0.here hx rfl (Jvm.hb hby at_67) ?_
      refine XS.iand X0.here hx rfl (Jvm.hb hby at_69) rfl ?_
      refine XS.ifNo X0.here hx rfl (Jvm.hb hby at_70) rfl ((if0 _ _).trans (feq ((by decide) : ¬ ((8 : Int32) = (0 : Int32)))).1) ?_
      refine XS.iconst X0.here hx rfl (Jvm.hb hby at_73) ?_
      show Steps pP.tables eE below (s₁.setTop (mkF mM 74 #[.val (.int p1), .val (.int p2), .val (.int p3), .val (.int p4), .val (.int (12 : Int32)), .val (.int ev), .val (.int tv), .val (.int (0 : Int32)), .val (.int (0 : Int32)), .val (.int (1 : Int32)), .unset, .unset, .unset, .unset, .unset, .unset, .unset, .unset, .unset, .unset, .unset, .unset, .unset, .unset] [(.int (1 : Int32))])) tT
      refine XS.goto X0.here hx rfl (pc0 := 74) (pc' := 78) rfl (Jvm.hb hby at_74) (by decide) (by decide) ?_
      refine XS.istore X0.here hx rfl (Jvm.hb hby at_78) rfl (l' := #[.val (.int p1), .val (.int p2), .val (.int p3), .val (.int p4), .val (.int (12 : Int32)), .val (.int ev), .val (.int tv), .val (.int (0 : Int32)), .val (.int (0 : Int32)), .val (.int (1 : Int32)), .val (.int (1 : Int32)), .unset, .unset, .unset, .unset, .unset, .unset, .unset, .unset, .unset, .unset, .unset, .unset, .unset]) rfl ?_
      refine XS.iload X0.here hx rfl (Jvm.hb hby at_80) rfl ?_
      refine XS.ifYes X0.here hx rfl (pc0 := 82) (pc' := 89) rfl (Jvm.hb hby at_82) rfl ((if0 _ _).trans (teq ((by decide) : (0 : Int32) = (0 : Int32))).1) (by decide) (by decide) ?_
      refine XS.iconst X0.here hx rfl (Jvm.hb hby at_89) ?_
      refine XS.iload X0.here hx rfl (Jvm.hb hby at_90) rfl ?_
      show Steps pP.tables eE below (s₁.setTop (mkF mM 92 #[.val (.int p1), .val (.int p2), .val (.int p3), .val (.int p4), .val (.int (12 : Int32)), .val (.int ev), .val (.int tv), .val (.int (0 : Int32)), .val (.int (0 : Int32)), .val (.int (1 : Int32)), .val (.int (1 : Int32)), .unset, .unset, .unset, .unset, .unset, .unset, .unset, .unset, .unset, .unset, .unset, .unset, .unset] [(.int (0 : Int32)), (.int (0 : Int32))])) tT
      refine XS.ifYes X0.here hx rfl (pc0 := 92) (pc' := 99) rfl (Jvm.hb hby at_92) rfl ((if0 _ _).trans (teq ((by decide) : (0 : Int32) = (0 : Int32))).1) (by decide) (by decide) ?_
      refine XS.iconst X0.here hx rfl (Jvm.hb hby at_99) ?_
      refine XS.iadd X0.here hx rfl (Jvm.hb hby at_100) rfl ?_
      refine XS.iload X0.here hx rfl (Jvm.hb hby at_101) rfl ?_
      refine XS.ifNo X0.here hx rfl (Jvm.hb hby at_103) rfl ((if0 _ _).trans (feq ((by decide) : ¬ ((1 : Int32) = (0 : Int32)))).1) ?_
      refine XS.iconst X0.here hx rfl (Jvm.hb hby at_106) ?_
      show Steps pP.tables eE below (s₁.setTop (mkF mM 107 #[.val (.int p1), .val (.int p2), .val (.int p3), .val (.int p4), .val (.int (12 : Int32)), .val (.int ev), .val (.int tv), .val (.int (0 : Int32)), .val (.int (0 : Int32)), .val (.int (1 : Int32)), .val (.int (1 : Int32)), .unset, .unset, .unset, .unset, .unset, .unset, .unset, .unset, .unset, .unset, .unset, .unset, .unset] [(.int (1 : Int32)), (.int (0 : Int32))])) tT
      refine XS.goto X0.here hx rfl (pc0 := 107) (pc' := 111) rfl (Jvm.hb hby at_107) (by decide) (by decide) ?_
      refine XS.iadd X0.here hx rfl (Jvm.hb hby at_111) rfl ?_
      refine XS.iload X0.here hx rfl (Jvm.hb hby at_112) rfl ?_
      refine XS.ifNo X0.here hx rfl (Jvm.hb hby at_114) rfl ((if0 _ _).trans (feq ((by decide) : ¬ ((1 : Int32) = (0 : Int32)))).1) ?_
      refine XS.iconst X0.here hx rfl (Jvm.hb hby at_117) ?_
      refine XS.goto X0.here hx rfl (pc0 := 118) (pc' := 122) rfl (Jvm.hb hby at_118) (by decide) (by decide) ?_
      show Steps pP.tables eE below (s₁.setTop (mkF mM 122 #[.val (.int p1), .val (.int p2), .val (.int p3), .val (.int p4), .val (.int (12 : Int32)), .val (.int ev), .val (.int tv), .val (.int (0 : Int32)), .val (.int (0 : Int32)), .val (.int (1 : Int32)), .val (.int (1 : Int32)), .unset, .unset, .unset, .unset, .unset, .unset, .unset, .unset, .unset, .unset, .unset, .unset, .unset] [(.int (1 : Int32)), (.int (1 : Int32))])) tT
      refine XS.iadd X0.here hx rfl (Jvm.hb hby at_122) rfl ?_
      refine XS.istore X0.here hx rfl (Jvm.hb hby at_123) rfl (l' := #[.val (.int p1), .val (.int p2), .val (.int p3), .val (.int p4), .val (.int (12 : Int32)), .val (.int ev), .val (.int tv), .val (.int (0 : Int32)), .val (.int (0 : Int32)), .val (.int (1 : Int32)), .val (.int (1 : Int32)), .val (.int (2 : Int32)), .unset, .unset, .unset, .unset, .unset, .unset, .unset, .unset, .unset, .unset, .unset, .unset]) rfl ?_
      refine XS.iload X0.here hx rfl (Jvm.hb hby at_125) rfl ?_
      exact kK
    obtain ⟨T121_, h121_, k121_, X121_, e121_, E121_, A121_, st121_⟩ := newP X0 hx hZ (hw _ (List.mem_of_getElem? (i := 1) rfl)) e0 (g := (mkF mM 127 #[.val (.int p1), .val (.int p2), .val (.int p3), .val (.int p4), .val (.int (12 : Int32)), .val (.int ev), .val (.int tv), .val (.int (0 : Int32)), .val (.int (0 : Int32)), .val (.int (1 : Int32)), .val (.int (1 : Int32)), .val (.int (2 : Int32)), .unset, .unset, .unset, .unset, .unset, .unset, .unset, .unset, .unset, .unset, .unset, .unset] [(.int (2 : Int32))])) rfl (Jvm.hb hby at_127) rfl (by decide) (cap := 4) (by decide) (by decide) (by decide) (by decide)
    obtain ⟨b121_, g121_⟩ : ∃ z, z = h0.size := ⟨_, rfl⟩
    rw [← g121_] at A121_ st121_
    have sz_b121_ : h0.size ≤ b121_ := Nat.le_trans K0.1 (Nat.le_of_eq g121_.symm)
    have ge_b121_ : n0 ≤ b121_ := Nat.le_trans Z0 sz_b121_
    have K121_ := K0.ext E121_
    have V121_ : own_T Z h121_ b121_ .int (2 : Int32) (fun _ => (0 : Int32)) := own_T.new A121_ (by decide) rfl
    refine own_fin st121_ ?_
    show own_Fin pP eE below _ (T121_.setTop (mkF mM 129 #[.val (.int p1), .val (.int p2), .val (.int p3), .val (.int p4), .val (.int (12 : Int32)), .val (.int ev), .val (.int tv), .val (.int (0 : Int32)), .val (.int (0 : Int32)), .val (.int (1 : Int32)), .val (.int (1 : Int32)), .val (.int (2 : Int32)), .unset, .unset, .unset, .unset, .unset, .unset, .unset, .unset, .unset, .unset, .unset, .unset] [(.ref b121_)]))
    refine own_fin (b := T121_.setTop (mkF mM 172 #[.val (.int p1), .val (.int p2), .val (.int p3), .val (.int p4), .val (.int (12 : Int32)), .val (.int ev), .val (.int tv), .val (.int (0 : Int32)), .val (.int (0 : Int32)), .val (.int (1 : Int32)), .val (.int (1 : Int32)), .val (.int (2 : Int32)), .val (.ref b121_), .val (.int (0 : Int32)), .unset, .unset, .unset, .unset, .unset, .unset, .unset, .unset, .unset, .unset] [(.int (2 : Int32)), (.int (0 : Int32)), (.ref b121_)])) (fun tT kK => ?_) ?_
    · show Steps pP.tables eE below (T121_.setTop (mkF mM 129 #[.val (.int p1), .val (.int p2), .val (.int p3), .val (.int p4), .val (.int (12 : Int32)), .val (.int ev), .val (.int tv), .val (.int (0 : Int32)), .val (.int (0 : Int32)), .val (.int (1 : Int32)), .val (.int (1 : Int32)), .val (.int (2 : Int32)), .unset, .unset, .unset, .unset, .unset, .unset, .unset, .unset, .unset, .unset, .unset, .unset] [(.ref b121_)])) tT
      refine XS.astore X121_.here hx rfl (Jvm.hb hby at_129) rfl rfl (l' := #[.val (.int p1), .val (.int p2), .val (.int p3), .val (.int p4), .val (.int (12 : Int32)), .val (.int ev), .val (.int tv), .val (.int (0 : Int32)), .val (.int (0 : Int32)), .val (.int (1 : Int32)), .val (.int (1 : Int32)), .val (.int (2 : Int32)), .val (.ref b121_), .unset, .unset, .unset, .unset, .unset, .unset, .unset, .unset, .unset, .unset, .unset]) rfl ?_
      refine XS.iconst X121_.here hx rfl (Jvm.hb hby at_131) ?_
      refine XS.istore X121_.here hx rfl (Jvm.hb hby at_132) rfl (l' := #[.val (.int p1), .val (.int p2), .val (.int p3), .val (.int p4), .val (.int (12 : Int32)), .val (.int ev), .val (.int tv), .val (.int (0 : Int32)), .val (.int (0 : Int32)), .val (.int (1 : Int32)), .val (.int (1 : Int32)), .val (.int (2 : Int32)), .val (.ref b121_), .val (.int (0 : Int32)), .unset, .unset, .unset, .unset, .unset, .unset, .unset, .unset, .unset, .unset]) rfl ?_
      show Steps pP.tables eE below (T121_.setTop (mkF mM 134 #[.val (.int p1), .val (.int p2), .val (.int p3), .val (.int p4), .val (.int (12 : Int32)), .val (.int ev), .val (.int tv), .val (.int (0 : Int32)), .val (.int (0 : Int32)), .val (.int (1 : Int32)), .val (.int (1 : Int32)), .val (.int (2 : Int32)), .val (.ref b121_), .val (.int (0 : Int32)), .unset, .unset, .unset, .unset, .unset, .unset, .unset, .unset, .unset, .unset] [])) tT
      refine XS.iload X121_.here hx rfl (Jvm.hb hby at_134) rfl ?_
      refine XS.ifYes X121_.here hx rfl (pc0 := 136) (pc' := 148) rfl (Jvm.hb hby at_136) rfl ((if0 _ _).trans (teq ((by decide) : (0 : Int32) = (0 : Int32))).1) (by decide) (by decide) ?_
      refine XS.iload X121_.here hx rfl (Jvm.hb hby at_148) rfl ?_
      refine XS.ifYes X121_.here hx rfl (pc0 := 150) (pc' := 162) rfl (Jvm.hb hby at_150) rfl ((if0 _ _).trans (teq ((by decide) : (0 : Int32) = (0 : Int32))).1) (by decide) (by decide) ?_
      refine XS.iload X121_.here hx rfl (Jvm.hb hby at_162) rfl ?_
      refine XS.ifNo X121_.here hx rfl (Jvm.hb hby at_164) rfl ((if0 _ _).trans (feq ((by decide) : ¬ ((1 : Int32) = (0 : Int32)))).1) ?_
      show Steps pP.tables eE below (T121_.setTop (mkF mM 167 #[.val (.int p1), .val (.int p2), .val (.int p3), .val (.int p4), .val (.int (12 : Int32)), .val (.int ev), .val (.int tv), .val (.int (0 : Int32)), .val (.int (0 : Int32)), .val (.int (1 : Int32)), .val (.int (1 : Int32)), .val (.int (2 : Int32)), .val (.ref b121_), .val (.int (0 : Int32)), .unset, .unset, .unset, .unset, .unset, .unset, .unset, .unset, .unset, .unset] [])) tT
      refine XS.aload X121_.here hx rfl (Jvm.hb hby at_167) rfl rfl ?_
      refine XS.iload X121_.here hx rfl (Jvm.hb hby at_169) rfl ?_
      refine XS.iconst X121_.here hx rfl (Jvm.hb hby at_171) ?_
      exact kK
    obtain ⟨cl122_, Ar122_, Sz122_, Nn122_, Hh122_⟩ := id V121_
    have hin122_ : ¬ ((0 : Int32) < 0 ∨ cl122_.slots.size ≤ ((0 : Int32)).toNatClampNeg) := inb_of Sz122_ ⟨by decide, by decide⟩
    obtain ⟨T122_, h122_, X122_, e122_, W122_, st122_⟩ := stI X121_ hx hZ e121_ Ar122_ (j := (0 : Int32)) hin122_ (g := (mkF mM 172 #[.val (.int p1), .val (.int p2), .val (.int p3), .val (.int p4), .val (.int (12 : Int32)), .val (.int ev), .val (.int tv), .val (.int (0 : Int32)), .val (.int (0 : Int32)), .val (.int (1 : Int32)), .val (.int (1 : Int32)), .val (.int (2 : Int32)), .val (.ref b121_), .val (.int (0 : Int32)), .unset, .unset, .unset, .unset, .unset, .unset, .unset, .unset, .unset, .unset] [(.int (2 : Int32)), (.int (0 : Int32)), (.ref b121_)])) rfl rfl (Jvm.hb hby at_172)
    have U122_ : own_T Z h122_ b121_ .int (2 : Int32) (own_up (fun _ => (0 : Int32)) (0 : Int32) (2 : Int32)) := own_T.set ⟨cl122_, Ar122_, Sz122_, Nn122_, Hh122_⟩ W122_ ⟨by decide, by decide⟩
    have K122_ := K121_.wr W122_ (Or.inr sz_b121_)
    have N122_ := Fr.snoc X122_ N0 ge_b121_
    refine own_fin st122_ ?_
    show own_Fin pP eE below _ (T122_.setTop (mkF mM 173 #[.val (.int p1), .val (.int p2), .val (.int p3), .val (.int p4), .val (.int (12 : Int32)), .val (.int ev), .val (.int tv), .val (.int (0 : Int32)), .val (.int (0 : Int32)), .val (.int (1 : Int32)), .val (.int (1 : Int32)), .val (.int (2 : Int32)), .val (.ref b121_), .val (.int (0 : Int32)), .unset, .unset, .unset, .unset, .unset, .unset, .unset, .unset, .unset, .unset] []))
    refine own_fin (b := T122_.setTop (mkF mM 186 #[.val (.int p1), .val (.int p2), .val (.int p3), .val (.int p4), .val (.int (12 : Int32)), .val (.int ev), .val (.int tv), .val (.int (0 : Int32)), .val (.int (0 : Int32)), .val (.int (1 : Int32)), .val (.int (1 : Int32)), .val (.int (2 : Int32)), .val (.ref b121_), .val (.int (1 : Int32)), .unset, .unset, .unset, .unset, .unset, .unset, .unset, .unset, .unset, .unset] [(.int (3 : Int32)), (.int (1 : Int32)), (.ref b121_)])) (fun tT kK => ?_) ?_
    · show Steps pP.tables eE below (T122_.setTop (mkF mM 173 #[.val (.int p1), .val (.int p2), .val (.int p3), .val (.int p4), .val (.int (12 : Int32)), .val (.int ev), .val (.int tv), .val (.int (0 : Int32)), .val (.int (0 : Int32)), .val (.int (1 : Int32)), .val (.int (1 : Int32)), .val (.int (2 : Int32)), .val (.ref b121_), .val (.int (0 : Int32)), .unset, .unset, .unset, .unset, .unset, .unset, .unset, .unset, .unset, .unset] [])) tT
      refine XS.iinc X122_.here hx rfl (Jvm.hb hby at_173) rfl (l' := #[.val (.int p1), .val (.int p2), .val (.int p3), .val (.int p4), .val (.int (12 : Int32)), .val (.int ev), .val (.int tv), .val (.int (0 : Int32)), .val (.int (0 : Int32)), .val (.int (1 : Int32)), .val (.int (1 : Int32)), .val (.int (2 : Int32)), .val (.ref b121_), .val (.int (1 : Int32)), .unset, .unset, .unset, .unset, .unset, .unset, .unset, .unset, .unset, .unset]) rfl ?_
      refine XS.iload X122_.here hx rfl (Jvm.hb hby at_176) rfl ?_
      refine XS.ifNo X122_.here hx rfl (Jvm.hb hby at_178) rfl ((if0 _ _).trans (feq ((by decide) : ¬ ((1 : Int32) = (0 : Int32)))).1) ?_
      show Steps pP.tables eE below (T122_.setTop (mkF mM 181 #[.val (.int p1), .val (.int p2), .val (.int p3), .val (.int p4), .val (.int (12 : Int32)), .val (.int ev), .val (.int tv), .val (.int (0 : Int32)), .val (.int (0 : Int32)), .val (.int (1 : Int32)), .val (.int (1 : Int32)), .val (.int (2 : Int32)), .val (.ref b121_), .val (.int (1 : Int32)), .unset, .unset, .unset, .unset, .unset, .unset, .unset, .unset, .unset, .unset] [])) tT
      refine XS.aload X122_.here hx rfl (Jvm.hb hby at_181) rfl rfl ?_
      refine XS.iload X122_.here hx rfl (Jvm.hb hby at_183) rfl ?_
      refine XS.iconst X122_.here hx rfl (Jvm.hb hby at_185) ?_
      exact kK
    obtain ⟨cl123_, Ar123_, Sz123_, Nn123_, Hh123_⟩ := id U122_
    have hin123_ : ¬ ((1 : Int32) < 0 ∨ cl123_.slots.size ≤ ((1 : Int32)).toNatClampNeg) := inb_of Sz123_ ⟨by decide, by decide⟩
    obtain ⟨T123_, h123_, X123_, e123_, W123_, st123_⟩ := stI X122_ hx hZ e122_ Ar123_ (j := (1 : Int32)) hin123_ (g := (mkF mM 186 #[.val (.int p1), .val (.int p2), .val (.int p3), .val (.int p4), .val (.int (12 : Int32)), .val (.int ev), .val (.int tv), .val (.int (0 : Int32)), .val (.int (0 : Int32)), .val (.int (1 : Int32)), .val (.int (1 : Int32)), .val (.int (2 : Int32)), .val (.ref b121_), .val (.int (1 : Int32)), .unset, .unset, .unset, .unset, .unset, .unset, .unset, .unset, .unset, .unset] [(.int (3 : Int32)), (.int (1 : Int32)), (.ref b121_)])) rfl rfl (Jvm.hb hby at_186)
    have U123_ : own_T Z h123_ b121_ .int (2 : Int32) (own_up (own_up (fun _ => (0 : Int32)) (0 : Int32) (2 : Int32)) (1 : Int32) (3 : Int32)) := own_T.set ⟨cl123_, Ar123_, Sz123_, Nn123_, Hh123_⟩ W123_ ⟨by decide, by decide⟩
    have K123_ := K122_.wr W123_ (Or.inr sz_b121_)
    have N123_ := Fr.snoc X123_ N122_ ge_b121_
    refine own_fin st123_ ?_
    show own_Fin pP eE below _ (T123_.setTop (mkF mM 187 #[.val (.int p1), .val (.int p2), .val (.int p3), .val (.int p4), .val (.int (12 : Int32)), .val (.int ev), .val (.int tv), .val (.int (0 : Int32)), .val (.int (0 : Int32)), .val (.int (1 : Int32)), .val (.int (1 : Int32)), .val (.int (2 : Int32)), .val (.ref b121_), .val (.int (1 : Int32)), .unset, .unset, .unset, .unset, .unset, .unset, .unset, .unset, .unset, .unset] []))
    refine own_fin (b := T123_.setTop (mkF mM 190 #[.val (.int p1), .val (.int p2), .val (.int p3), .val (.int p4), .val (.int (12 : Int32)), .val (.int ev), .val (.int tv), .val (.int (0 : Int32)), .val (.int (0 : Int32)), .val (.int (1 : Int32)), .val (.int (1 : Int32)), .val (.int (2 : Int32)), .val (.ref b121_), .val (.int (2 : Int32)), .unset, .unset, .unset, .unset, .unset, .unset, .unset, .unset, .unset, .unset] [])) (fun tT kK => ?_) ?_
    · show Steps pP.tables eE below (T123_.setTop (mkF mM 187 #[.val (.int p1), .val (.int p2), .val (.int p3), .val (.int p4), .val (.int (12 : Int32)), .val (.int ev), .val (.int tv), .val (.int (0 : Int32)), .val (.int (0 : Int32)), .val (.int (1 : Int32)), .val (.int (1 : Int32)), .val (.int (2 : Int32)), .val (.ref b121_), .val (.int (1 : Int32)), .unset, .unset, .unset, .unset, .unset, .unset, .unset, .unset, .unset, .unset] [])) tT
      refine XS.iinc X123_.here hx rfl (Jvm.hb hby at_187) rfl (l' := #[.val (.int p1), .val (.int p2), .val (.int p3), .val (.int p4), .val (.int (12 : Int32)), .val (.int ev), .val (.int tv), .val (.int (0 : Int32)), .val (.int (0 : Int32)), .val (.int (1 : Int32)), .val (.int (1 : Int32)), .val (.int (2 : Int32)), .val (.ref b121_), .val (.int (2 : Int32)), .unset, .unset, .unset, .unset, .unset, .unset, .unset, .unset, .unset, .unset]) rfl ?_
      exact kK
    show own_Fin pP eE below _ (T123_.setTop (mkF mM 190 #[.val (.int p1), .val (.int p2), .val (.int p3), .val (.int p4), .val (.int (12 : Int32)), .val (.int ev), .val (.int tv), .val (.int (0 : Int32)), .val (.int (0 : Int32)), .val (.int (1 : Int32)), .val (.int (1 : Int32)), .val (.int (2 : Int32)), .val (.ref b121_), .val (.int (2 : Int32)), .unset, .unset, .unset, .unset, .unset, .unset, .unset, .unset, .unset, .unset] []))
    exact jp1_ (0 : Int32) (0 : Int32) (1 : Int32) (1 : Int32) (2 : Int32) b121_ (own_up (own_up (fun _ => (0 : Int32)) (0 : Int32) (2 : Int32)) (1 : Int32) (3 : Int32)) _ _ _ _ own_St12 ge_b121_ X123_ e123_ K123_ U123_ N123_
  · show own_Fin pP eE below _ (s₁.setTop (mkF mM 23 #[.val (.int p1), .val (.int p2), .val (.int p3), .val (.int p4), .val (.int (13 : Int32)), .val (.int ev), .val (.int tv), .unset, .unset, .unset, .unset, .unset, .unset, .unset, .unset, .unset, .unset, .unset, .unset, .unset, .unset, .unset, .unset, .unset] []))
    refine own_fin (b := s₁.setTop (mkF mM 127 #[.val (.int p1), .val (.int p2), .val (.int p3), .val (.int p4), .val (.int (13 : Int32)), .val (.int ev), .val (.int tv), .val (.int (1 : Int32)), .val (.int (0 : Int32)), .val (.int (1 : Int32)), .val (.int (1 : Int32)), .val (.int (3 : Int32)), .unset, .unset, .unset, .unset, .unset, .unset, .unset, .unset, .unset, .unset, .unset, .unset] [(.int (3 : Int32))])) (fun tT kK => ?_) ?_
    · show Steps pP.tables eE below (s₁.setTop (mkF mM 23 #[.val (.int p1), .val (.int p2), .val (.int p3), .val (.int p4), .val (.int (13 : Int32)), .val (.int ev), .val (.int tv), .unset, .unset, .unset, .unset, .unset, .unset, .unset, .unset, .unset, .unset, .unset, .unset, .unset, .unset, .unset, .unset, .unset] [])) tT
      refine XS.iload X0.here hx rfl (Jvm.hb hby at_23) rfl ?_
      refine XS.iconst X0.here hx rfl (Jvm.hb hby at_25) ?_
      refine XS.iand X0.here hx rfl (Jvm.hb hby at_26) rfl ?_
      refine XS.ifNo X0.here hx rfl (Jvm.hb hby at_27) rfl ((if0 _ _).trans (feq ((by decide) : ¬ ((1 : Int32) = (0 : Int32)))).1) ?_
      refine XS.iconst X0.here hx rfl (Jvm.hb hby at_30) ?_
      refine XS.goto X0.here hx rfl (pc0 := 31) (pc' := 35) rfl (Jvm.hb hby at_31) (by decide) (by decide) ?_
      show Steps pP.tables eE below (s₁.setTop (mkF mM 35 #[.val (.int p1), .val (.int p2), .val (.int p3), .val (.int p4), .val (.int (13 : Int32)), .val (.int ev), .val (.int tv), .unset, .unset, .unset, .unset, .unset, .unset, .unset, .unset, .unset, .unset, .unset, .unset, .unset, .unset, .unset, .unset, .unset] [(.int (1 : Int32))])) tT
      refine XS.istore X0.here hx rfl (Jvm.hb hby at_35) rfl (l' := #[.val (.int p1), .val (.int p2), .val (.int p3), .val (.int p4), .val (.int (13 : Int32)), .val (.int ev), .val (.int tv), .val (.int (1 : Int32)), .unset, .unset, .unset, .unset, .unset, .unset, .unset, .unset, .unset, .unset, .unset, .unset, .unset, .unset, .unset, .unset]) rfl ?_
      refine XS.iload X0.here hx rfl (Jvm.hb hby at_37) rfl ?_
      refine XS.iconst X0.here hx rfl (Jvm.hb hby at_39) ?_
      refine XS.iand X0.here hx rfl (Jvm.hb hby at_40) rfl ?_
      refine XS.ifYes X0.here hx rfl (pc0 := 41) (pc' := 48) rfl (Jvm.hb hby at_41) rfl ((if0 _ _).trans (teq ((by decide) : (0 : Int32) = (0 : Int32))).1) (by decide) (by decide) ?_
      refine XS.iconst X0.here hx rfl (Jvm.hb hby at_48) ?_
      show Steps pP.tables eE below (s₁.setTop (mkF mM 49 #[.val (.int p1), .val (.int p2), .val (.int p3), .val (.int p4), .val (.int (13 : Int32)), .val (.int ev), .val (.int tv), .val (.int (1 : Int32)), .unset, .unset, .unset, .unset, .unset, .unset, .unset, .unset, .unset, .unset, .unset, .unset, .unset, .unset, .unset, .unset] [(.int (0 : Int32))])) tT
      refine XS.istore X0.here hx rfl (Jvm.hb hby at_49) rfl (l' := #[.val (.int p1), .val (.int p2), .val (.int p3), .val (.int p4), .val (.int (13 : Int32)), .val (.int ev), .val (.int tv), .val (.int (1 : Int32)), .val (.int (0 : Int32)), .unset, .unset, .unset, .unset, .unset, .unset, .unset, .unset, .unset, .unset, .unset, .unset, .unset, .unset, .unset]) rfl ?_
      refine XS.iload X0.here hx rfl (Jvm.hb hby at_51) rfl ?_
      refine XS.iconst X0.here hx rfl (Jvm.hb hby at_53) ?_
      refine XS.iand X0.here hx rfl (Jvm.hb hby at_54) rfl ?_
      refine XS.ifNo X0.here hx rfl (Jvm.hb hby at_55) rfl ((if0 _ _).trans (feq ((by decide) : ¬ ((4 : Int32) = (0 : Int32)))).1) ?_
      refine XS.iconst X0.here hx rfl (Jvm.hb hby at_58) ?_
      show Steps pP.tables eE below (s₁.setTop (mkF mM 59 #[.val (.int p1), .val (.int p2), .val (.int p3), .val (.int p4), .val (.int (13 : Int32)), .val (.int ev), .val (.int tv), .val (.int (1 : Int32)), .val (.int (0 : Int32)), .unset, .unset, .unset, .unset, .unset, .unset, .unset, .unset, .unset, .unset, .unset, .unset, .unset, .unset, .unset] [(.int (1 : Int32))])) tT
      refine XS.goto X0.here hx rfl (pc0 := 59) (pc' := 63) rfl (Jvm.hb hby at_59) (by decide) (by decide) ?_
      refine XS.istore X0.here hx rfl (Jvm.hb hby at_63) rfl (l' := #[.val (.int p1), .val (.int p2), .val (.int p3), .val (.int p4), .val (.int (13 : Int32)), .val (.int ev), .val (.int tv), .val (.int (1 : Int32)), .val (.int (0 : Int32)), .val (.int (1 : Int32)), .unset, .unset, .unset, .unset, .unset, .unset, .unset, .unset, .unset, .unset, .unset, .unset, .unset, .unset]) rfl ?_
      refine XS.iload X0.here hx rfl (Jvm.hb hby at_65) rfl ?_
      refine XS.bipush X0.here hx rfl (Jvm.hb hby at_67) ?_
      refine XS.iand X0.here hx rfl (Jvm.hb hby at_69) rfl ?_
      refine XS.ifNo X0.here hx rfl (Jvm.hb hby at_70) rfl ((if0 _ _).trans (feq ((by decide) : ¬ ((8 : Int32) = (0 : Int32)))).1) ?_
      show Steps pP.tables eE below (s₁.setTop (mkF mM 73 #[.val (.int p1), .val (.int p2), .val (.int p3), .val (.int p4), .val (.int (13 : Int32)), .val (.int ev), .val (.int tv), .val (.int (1 : Int32)), .val (.int (0 : Int32)), .val (.int (1 : Int32)), .unset, .unset, .unset, .unset, .unset, .unset, .unset, .unset, .unset, .unset, .unset, .unset, .unset, .unset] [])) tT
      refine XS.iconst X0.here hx rfl (Jvm.hb hby at_73) ?_
      refine XS.goto X0.here hx rfl (pc0 := 74) (pc' := 78) rfl (Jvm.hb hby at_74) (by decide) (by decide) ?_
      refine XS.istore X0.here hx rfl (Jvm.hb hby at_78) rfl (l' := #[.val (.int p1), .val (.int p2), .val (.int p3), .val (.int p4), .val (.int (13 : Int32)), .val (.int ev), .val (.int tv), .val (.int (1 : Int32)), .val (.int (0 : Int32)), .val (.int (1 : Int32)), .val (.int (1 : Int32)), .unset, .unset, .unset, .unset, .unset, .unset, .unset, .unset, .unset, .unset, .unset, .unset, .unset]) rfl ?_
      refine XS.iload X0.here hx rfl (Jvm.hb hby at_80) rfl ?_
      refine XS.ifNo X0.here hx rfl (Jvm.hb hby at_82) rfl ((if0 _ _).trans (feq ((by decide) : ¬ ((1 : Int32) = (0 : Int32)))).1) ?_
      refine XS.iconst X0.here hx rfl (Jvm.hb hby at_85) ?_
      show Steps pP.tables eE below (s₁.setTop (mkF mM 86 #[.val (.int p1), .val (.int p2), .val (.int p3), .val (.int p4), .val (.int (13 : Int32)), .val (.int ev), .val (.int tv), .val (.int (1 : Int32)), .val (.int (0 : Int32)), .val (.int (1 : Int32)), .val (.int (1 : Int32)), .unset, .unset, .unset, .unset, .unset, .unset, .unset, .unset, .unset, .unset, .unset, .unset, .unset] [(.int (1 : Int32))])) tT
      refine XS.goto X0.here hx rfl (pc0 := 86) (pc' := 90) rfl (Jvm.hb hby at_86) (by decide) (by decide) ?_
      refine XS.iload X0.here hx rfl (Jvm.hb hby at_90) rfl ?_
      refine XS.ifYes X0.here hx rfl (pc0 := 92) (pc' := 99) rfl (Jvm.hb hby at_92) rfl ((if0 _ _).trans (teq ((by decide) : (0 : Int32) = (0 : Int32))).1) (by decide) (by decide) ?_
      refine XS.iconst X0.here hx rfl (Jvm.hb hby at_99) ?_
      refine XS.iadd X0.here hx rfl (Jvm.hb hby at_100) rfl ?_
      refine XS.iload X0.here hx rfl (Jvm.hb hby at_101) rfl ?_
      show Steps pP.tables eE below (s₁.setTop (mkF mM 103 #[.val (.int p1), .val (.int p2), .val (.int p3), .val (.int p4), .val (.int (13 : Int32)), .val (.int ev), .val (.int tv), .val (.int (1 : Int32)), .val (.int (0 : Int32)), .val (.int (1 : Int32)), .val (.int (1 : Int32)), .unset, .unset, .unset, .unset, .unset, .unset, .unset, .unset, .unset, .unset, .unset, .unset, .unset] [(.int (1 : Int32)), (.int (1 : Int32))])) tT
      refine XS.ifNo X0.here hx rfl (Jvm.hb hby at_103) rfl ((if0 _ _).trans (feq ((by decide) : ¬ ((1 : Int32) = (0 : Int32)))).1) ?_
      refine XS.iconst X0.here hx rfl (Jvm.hb hby at_106) ?_
      refine XS.goto X0.here hx rfl (pc0 := 107) (pc' := 111) rfl (Jvm.hb hby at_107) (by decide) (by decide) ?_
      refine XS.iadd X0.here hx rfl (Jvm.hb hby at_111) rfl ?_
      refine XS.iload X0.here hx rfl (Jvm.hb hby at_112) rfl ?_
      refine XS.ifNo X0.here hx rfl (Jvm.hb hby at_114) rfl ((if0 _ _).trans (feq ((by decide) : ¬ ((1 : Int32) = (0 : Int32)))).1) ?_
      show Steps pP.tables eE below (s₁.setTop (mkF mM 117 #[.val (.int p1), .val (.int p2), .val (.int p3), .val (.int p4), .val (.int (13 : Int32)), .val (.int ev), .val (.int tv), .val (.int (1 : Int32)), .val (.int (0 : Int32)), .val (.int (1 : Int32)), .val (.int (1 : Int32)), .unset, .unset, .unset, .unset, .unset, .unset, .unset, .unset, .unset, .unset, .unset, .unset, .unset] [(.int (2 : Int32))])) tT
      refine XS.iconst X0.here hx rfl (Jvm.hb hby at_117) ?_
      refine XS.goto X0.here hx rfl (pc0 := 118) (pc' := 122) rfl (Jvm.hb hby at_118) (by decide) (by decide) ?_
      refine XS.iadd X0.here hx rfl (Jvm.hb hby at_122) rfl ?_
      refine XS.istore X0.here hx rfl (Jvm.hb hby at_123) rfl (l' := #[.val (.int p1), .val (.int p2), .val (.int p3), .val (.int p4), .val (.int (13 : Int32)), .val (.int ev), .val (.int tv), .val (.int (1 : Int32)), .val (.int (0 : Int32)), .val (.int (1 : Int32)), .val (.int (1 : Int32)), .val (.int (3 : Int32)), .unset, .unset, .unset, .unset, .unset, .unset, .unset, .unset, .unset, .unset, .unset, .unset]) rfl ?_
      refine XS.iload X0.here hx rfl (Jvm.hb hby at_125) rfl ?_
      exact kK
    obtain ⟨T124_, h124_, k124_, X124_, e124_, E124_, A124_, st124_⟩ := newP X0 hx hZ (hw _ (List.mem_of_getElem? (i := 1) rfl)) e0 (g := (mkF mM 127 #[.val (.int p1), .val (.int p2), .val (.int p3), .val (.int p4), .val (.int (13 : Int32)), .val (.int ev), .val (.int tv), .val (.int (1 : Int32)), .val (.int (0 : Int32)), .val (.int (1 : Int32)), .val (.int (1 : Int32)), .val (.int (3 : Int32)), .unset, .unset, .unset, .unset, .unset, .unset, .unset, .unset, .unset, .unset, .unset, .unset] [(.int (3 : Int32))])) rfl (Jvm.hb hby at_127) rfl (by decide) (cap := 4) (by decide) (by decide) (by decide) (by decide)
    obtain ⟨b124_, g124_⟩ : ∃ z, z = h0.size := ⟨_, rfl⟩
    rw [← g124_] at A124_ st124_
    have sz_b124_ : h0.size ≤ b124_ := Nat.le_trans K0.1 (Nat.le_of_eq g124_.symm)
    have ge_b124_ : n0 ≤ b124_ := Nat.le_trans Z0 sz_b124_
    have K124_ := K0.ext E124_
    have V124_ : own_T Z h124_ b124_ .int (3 : Int32) (fun _ => (0 : Int32)) := own_T.new A124_ (by decide) rfl
    refine own_fin st124_ ?_
    show own_Fin pP eE below _ (T124_.setTop (mkF mM 129 #[.val (.int p1), .val (.int p2), .val (.int p3), .val (.int p4), .val (.int (13 : Int32)), .val (.int ev), .val (.int tv), .val (.int (1 : Int32)), .val (.int (0 : Int32)), .val (.int (1 : Int32)), .val (.int (1 : Int32)), .val (.int (3 : Int32)), .unset, .unset, .unset, .unset, .unset, .unset, .unset, .unset, .unset, .unset, .unset, .unset] [(.ref b124_)]))
    refine own_fin (b := T124_.setTop (mkF mM 144 #[.val (.int p1), .val (.int p2), .val (.int p3), .val (.int p4), .val (.int (13 : Int32)), .val (.int ev), .val (.int tv), .val (.int (1 : Int32)), .val (.int (0 : Int32)), .val (.int (1 : Int32)), .val (.int (1 : Int32)), .val (.int (3 : Int32)), .val (.ref b124_), .val (.int (0 : Int32)), .unset, .unset, .unset, .unset, .unset, .unset, .unset, .unset, .unset, .unset] [(.int (0 : Int32)), (.int (0 : Int32)), (.ref b124_)])) (fun tT kK => ?_) ?_
    · show Steps pP.tables eE below (T124_.setTop (mkF mM 129 #[.val (.int p1), .val (.int p2), .val (.int p3), .val (.int p4), .val (.int (13 : Int32)), .val (.int ev), .val (.int tv), .val (.int (1 : Int32)), .val (.int (0 : Int32)), .val (.int (1 : Int32)), .val (.int (1 : Int32)), .val (.int (3 : Int32)), .unset, .unset, .unset, .unset, .unset, .unset, .unset, .unset, .unset, .unset, .unset, .unset] [(.ref b124_)])) tT
      refine XS.astore X124_.here hx rfl (Jvm.hb hby at_129) rfl rfl (l' := #[.val (.int p1), .val (.int p2), .val (.int p3), .val (.int p4), .val (.int (13 : Int32)), .val (.int ev), .val (.int tv), .val (.int (1 : Int32)), .val (.int (0 : Int32)), .val (.int (1 : Int32)), .val (.int (1 : Int32)), .val (.int (3 : Int32)), .val (.ref b124_), .unset, .unset, .unset, .unset, .unset, .unset, .unset, .unset, .unset, .unset, .unset]) rfl ?_
      show Steps pP.tables eE below (T124_.setTop (mkF mM 131 #[.val (.int p1), .val (.int p2), .val (.int p3), .val (.int p4), .val (.int (13 : Int32)), .val (.int ev), .val (.int tv), .val (.int (1 : Int32)), .val (.int (0 : Int32)), .val (.int (1 : Int32)), .val (.int (1 : Int32)), .val (.int (3 : Int32)), .val (.ref b124_), .unset, .unset, .unset, .unset, .unset, .unset, .unset, .unset, .unset, .unset, .unset] [])) tT
      refine XS.iconst X124_.here hx rfl (Jvm.hb hby at_131) ?_
      refine XS.istore X124_.here hx rfl (Jvm.hb hby at_132) rfl (l' := #[.val (.int p1), .val (.int p2), .val (.int p3), .val (.int p4), .val (.int (13 : Int32)), .val (.int ev), .val (.int tv), .val (.int (1 : Int32)), .val (.int (0 : Int32)), .val (.int (1 : Int32)), .val (.int (1 : Int32)), .val (.int (3 : Int32)), .val (.ref b124_), .val (.int (0 : Int32)), .unset, .unset, .unset, .unset, .unset, .unset, .unset, .unset, .unset, .unset]) rfl ?_
      refine XS.iload X124_.here hx rfl (Jvm.hb hby at_134) rfl ?_
      refine XS.ifNo X124_.here hx rfl (Jvm.hb hby at_136) rfl ((if0 _ _).trans (feq ((by decide) : ¬ ((1 : Int32) = (0 : Int32)))).1) ?_
      refine XS.aload X124_.here hx rfl (Jvm.hb hby at_139) rfl rfl ?_
      refine XS.iload X124_.here hx rfl (Jvm.hb hby at_141) rfl ?_
      show Steps pP.tables eE below (T124_.setTop (mkF mM 143 #[.val (.int p1), .val (.int p2), .val (.int p3), .val (.int p4), .val (.int (13 : Int32)), .val (.int ev), .val (.int tv), .val (.int (1 : Int32)), .val (.int (0 : Int32)), .val (.int (1 : Int32)), .val (.int (1 : Int32)), .val (.int (3 : Int32)), .val (.ref b124_), .val (.int (0 : Int32)), .unset, .unset, .unset, .unset, .unset, .unset, .unset, .unset, .unset, .unset] [(.int (0 : Int32)), (.ref b124_)])) tT
      refine XS.iconst X124_.here hx rfl (Jvm.hb hby at_143) ?_
      exact kK
    obtain ⟨cl125_, Ar125_, Sz125_, Nn125_, Hh125_⟩ := id V124_
    have hin125_ : ¬ ((0 : Int32) < 0 ∨ cl125_.slots.size ≤ ((0 : Int32)).toNatClampNeg) := inb_of Sz125_ ⟨by decide, by decide⟩
    obtain ⟨T125_, h125_, X125_, e125_, W125_, st125_⟩ := stI X124_ hx hZ e124_ Ar125_ (j := (0 : Int32)) hin125_ (g := (mkF mM 144 #[.val (.int p1), .val (.int p2), .val (.int p3), .val (.int p4), .val (.int (13 : Int32)), .val (.int ev), .val (.int tv), .val (.int (1 : Int32)), .val (.int (0 : Int32)), .val (.int (1 : Int32)), .val (.int (1 : Int32)), .val (.int (3 : Int32)), .val (.ref b124_), .val (.int (0 : Int32)), .unset, .unset, .unset, .unset, .unset, .unset, .unset, .unset, .unset, .unset] [(.int (0 : Int32)), (.int (0 : Int32)), (.ref b124_)])) rfl rfl (Jvm.hb hby at_144)
    have U125_ : own_T Z h125_ b124_ .int (3 : Int32) (own_up (fun _ => (0 : Int32)) (0 : Int32) (0 : Int32)) := own_T.set ⟨cl125_, Ar125_, Sz125_, Nn125_, Hh125_⟩ W125_ ⟨by decide, by decide⟩
    have K125_ := K124_.wr W125_ (Or.inr sz_b124_)
    have N125_ := Fr.snoc X125_ N0 ge_b124_
    refine own_fin st125_ ?_
    show own_Fin pP eE below _ (T125_.setTop (mkF mM 145 #[.val (.int p1), .val (.int p2), .val (.int p3), .val (.int p4), .val (.int (13 : Int32)), .val (.int ev), .val (.int tv), .val (.int (1 : Int32)), .val (.int (0 : Int32)), .val (.int (1 : Int32)), .val (.int (1 : Int32)), .val (.int (3 : Int32)), .val (.ref b124_), .val (.int (0 : Int32)), .unset, .unset, .unset, .unset, .unset, .unset, .unset, .unset, .unset, .unset] []))
    refine own_fin (b := T125_.setTop (mkF mM 172 #[.val (.int p1), .val (.int p2), .val (.int p3), .val (.int p4), .val (.int (13 : Int32)), .val (.int ev), .val (.int tv), .val (.int (1 : Int32)), .val (.int (0 : Int32)), .val (.int (1 : Int32)), .val (.int (1 : Int32)), .val (.int (3 : Int32)), .val (.ref b124_), .val (.int (1 : Int32)), .unset, .unset, .unset, .unset, .unset, .unset, .unset, .unset, .unset, .unset] [(.int (2 : Int32)), (.int (1 : Int32)), (.ref b124_)])) (fun tT kK => ?_) ?_
    · show Steps pP.tables eE below (T125_.setTop (mkF mM 145 #[.val (.int p1), .val (.int p2), .val (.int p3), .val (.int p4), .val (.int (13 : Int32)), .val (.int ev), .val (.int tv), .val (.int (1 : Int32)), .val (.int (0 : Int32)), .val (.int (1 : Int32)), .val (.int (1 : Int32)), .val (.int (3 : Int32)), .val (.ref b124_), .val (.int (0 : Int32)), .unset, .unset, .unset, .unset, .unset, .unset, .unset, .unset, .unset, .unset] [])) tT
      refine XS.iinc X125_.here hx rfl (Jvm.hb hby at_145) rfl (l' := #[.val (.int p1), .val (.int p2), .val (.int p3), .val (.int p4), .val (.int (13 : Int32)), .val (.int ev), .val (.int tv), .val (.int (1 : Int32)), .val (.int (0 : Int32)), .val (.int (1 : Int32)), .val (.int (1 : Int32)), .val (.int (3 : Int32)), .val (.ref b124_), .val (.int (1 : Int32)), .unset, .unset, .unset, .unset, .unset, .unset, .unset, .unset, .unset, .unset]) rfl ?_
      refine XS.iload X125_.here hx rfl (Jvm.hb hby at_148) rfl ?_
      refine XS.ifYes X125_.here hx rfl (pc0 := 150) (pc' := 162) rfl (Jvm.hb hby at_150) rfl ((if0 _ _).trans (teq ((by decide) : (0 : Int32) = (0 : Int32))).1) (by decide) (by decide) ?_
      refine XS.iload X125_.here hx rfl (Jvm.hb hby at_162) rfl ?_
      refine XS.ifNo X125_.here hx rfl (Jvm.hb hby at_164) rfl ((if0 _ _).trans (feq ((by decide) : ¬ ((1 : Int32) = (0 : Int32)))).1) ?_
      show Steps pP.tables eE below (T125_.setTop (mkF mM 167 #[.val (.int p1), .val (.int p2), .val (.int p3), .val (.int p4), .val (.int (13 : Int32)), .val (.int ev), .val (.int tv), .val (.int (1 : Int32)), .val (.int (0 : Int32)), .val (.int (1 : Int32)), .val (.int (1 : Int32)), .val (.int (3 : Int32)), .val (.ref b124_), .val (.int (1 : Int32)), .unset, .unset, .unset, .unset, .unset, .unset, .unset, .unset, .unset, .unset] [])) tT
      refine XS.aload X125_.here hx rfl (Jvm.hb hby at_167) rfl rfl ?_
      refine XS.iload X125_.here hx rfl (Jvm.hb hby at_169) rfl ?_
      refine XS.iconst X125_.here hx rfl (Jvm.hb hby at_171) ?_
      exact kK
    obtain ⟨cl126_, Ar126_, Sz126_, Nn126_, Hh126_⟩ := id U125_
    have hin126_ : ¬ ((1 : Int32) < 0 ∨ cl126_.slots.size ≤ ((1 : Int32)).toNatClampNeg) := inb_of Sz126_ ⟨by decide, by decide⟩
    obtain ⟨T126_, h126_, X126_, e126_, W126_, st126_⟩ := stI X125_ hx hZ e125_ Ar126_ (j := (1 : Int32)) hin126_ (g := (mkF mM 172 #[.val (.int p1), .val (.int p2), .val (.int p3), .val (.int p4), .val (.int (13 : Int32)), .val (.int ev), .val (.int tv), .val (.int (1 : Int32)), .val (.int (0 : Int32)), .val (.int (1 : Int32)), .val (.int (1 : Int32)), .val (.int (3 : Int32)), .val (.ref b124_), .val (.int (1 : Int32)), .unset, .unset, .unset, .unset, .unset, .unset, .unset, .unset, .unset, .unset] [(.int (2 : Int32)), (.int (1 : Int32)), (.ref b124_)])) rfl rfl (Jvm.hb hby at_172)
    have U126_ : own_T Z h126_ b124_ .int (3 : Int32) (own_up (own_up (fun _ => (0 : Int32)) (0 : Int32) (0 : Int32)) (1 : Int32) (2 : Int32)) := own_T.set ⟨cl126_, Ar126_, Sz126_, Nn126_, Hh126_⟩ W126_ ⟨by decide, by decide⟩
    have K126_ := K125_.wr W126_ (Or.inr sz_b124_)
    have N126_ := Fr.snoc X126_ N125_ ge_b124_
    refine own_fin st126_ ?_
    show own_Fin pP eE below _ (T126_.setTop (mkF mM 173 #[.val (.int p1), .val (.int p2), .val (.int p3), .val (.int p4), .val (.int (13 : Int32)), .val (.int ev), .val (.int tv), .val (.int (1 : Int32)), .val (.int (0 : Int32)), .val (.int (1 : Int32)), .val (.int (1 : Int32)), .val (.int (3 : Int32)), .val (.ref b124_), .val (.int (1 : Int32)), .unset, .unset, .unset, .unset, .unset, .unset, .unset, .unset, .unset, .unset] []))
    refine own_fin (b := T126_.setTop (mkF mM 186 #[.val (.int p1), .val (.int p2), .val (.int p3), .val (.int p4), .val (.int (13 : Int32)), .val (.int ev), .val (.int tv), .val (.int (1 : Int32)), .val (.int (0 : Int32)), .val (.int (1 : Int32)), .val (.int (1 : Int32)), .val (.int (3 : Int32)), .val (.ref b124_), .val (.int (2 : Int32)), .unset, .unset, .unset, .unset, .unset, .unset, .unset, .unset, .unset, .unset] [(.int (3 : Int32)), (.int (2 : Int32)), (.ref b124_)])) (fun tT kK => ?_) ?_
    · show Steps pP.tables eE below (T126_.setTop (mkF mM 173 #[.val (.int p1), .val (.int p2), .val (.int p3), .val (.int p4), .val (.int (13 : Int32)), .val (.int ev), .val (.int tv), .val (.int (1 : Int32)), .val (.int (0 : Int32)), .val (.int (1 : Int32)), .val (.int (1 : Int32)), .val (.int (3 : Int32)), .val (.ref b124_), .val (.int (1 : Int32)), .unset, .unset, .unset, .unset, .unset, .unset, .unset, .unset, .unset, .unset] [])) tT
      refine XS.iinc X126_.here hx rfl (Jvm.hb hby at_173) rfl (l' := #[.val (.int p1), .val (.int p2), .val (.int p3), .val (.int p4), .val (.int (13 : Int32)), .val (.int ev), .val (.int tv), .val (.int (1 : Int32)), .val (.int (0 : Int32)), .val (.int (1 : Int32)), .val (.int (1 : Int32)), .val (.int (3 : Int32)), .val (.ref b124_), .val (.int (2 : Int32)), .unset, .unset, .unset, .unset, .unset, .unset, .unset, .unset, .unset, .unset]) rfl ?_
      refine XS.iload X126_.here hx rfl (Jvm.hb hby at_176) rfl ?_
      refine XS.ifNo X126_.here hx rfl (Jvm.hb hby at_178) rfl ((if0 _ _).trans (feq ((by decide) : ¬ ((1 : Int32) = (0 : Int32)))).1) ?_
      show Steps pP.tables eE below (T126_.setTop (mkF mM 181 #[.val (.int p1), .val (.int p2), .val (.int p3), .val (.int p4), .val (.int (13 : Int32)), .val (.int ev), .val (.int tv), .val (.int (1 : Int32)), .val (.int (0 : Int32)), .val (.int (1 : Int32)), .val (.int (1 : Int32)), .val (.int (3 : Int32)), .val (.ref b124_), .val (.int (2 : Int32)), .unset, .unset, .unset, .unset, .unset, .unset, .unset, .unset, .unset, .unset] [])) tT
      refine XS.aload X126_.here hx rfl (Jvm.hb hby at_181) rfl rfl ?_
      refine XS.iload X126_.here hx rfl (Jvm.hb hby at_183) rfl ?_
      refine XS.iconst X126_.here hx rfl (Jvm.hb hby at_185) ?_
      exact kK
    obtain ⟨cl127_, Ar127_, Sz127_, Nn127_, Hh127_⟩ := id U126_
    have hin127_ : ¬ ((2 : Int32) < 0 ∨ cl127_.slots.size ≤ ((2 : Int32)).toNatClampNeg) := inb_of Sz127_ ⟨by decide, by decide⟩
    obtain ⟨T127_, h127_, X127_, e127_, W127_, st127_⟩ := stI X126_ hx hZ e126_ Ar127_ (j := (2 : Int32)) hin127_ (g := (mkF mM 186 #[.val (.int p1), .val (.int p2), .val (.int p3), .val (.int p4), .val (.int (13 : Int32)), .val (.int ev), .val (.int tv), .val (.int (1 : Int32)), .val (.int (0 : Int32)), .val (.int (1 : Int32)), .val (.int (1 : Int32)), .val (.int (3 : Int32)), .val (.ref b124_), .val (.int (2 : Int32)), .unset, .unset, .unset, .unset, .unset, .unset, .unset, .unset, .unset, .unset] [(.int (3 : Int32)), (.int (2 : Int32)), (.ref b124_)])) rfl rfl (Jvm.hb hby at_186)
    have U127_ : own_T Z h127_ b124_ .int (3 : Int32) (own_up (own_up (own_up (fun _ => (0 : Int32)) (0 : Int32) (0 : Int32)) (1 : Int32) (2 : Int32)) (2 : Int32) (3 : Int32)) := own_T.set ⟨cl127_, Ar127_, Sz127_, Nn127_, Hh127_⟩ W127_ ⟨by decide, by decide⟩
    have K127_ := K126_.wr W127_ (Or.inr sz_b124_)
    have N127_ := Fr.snoc X127_ N126_ ge_b124_
    refine own_fin st127_ ?_
    show own_Fin pP eE below _ (T127_.setTop (mkF mM 187 #[.val (.int p1), .val (.int p2), .val (.int p3), .val (.int p4), .val (.int (13 : Int32)), .val (.int ev), .val (.int tv), .val (.int (1 : Int32)), .val (.int (0 : Int32)), .val (.int (1 : Int32)), .val (.int (1 : Int32)), .val (.int (3 : Int32)), .val (.ref b124_), .val (.int (2 : Int32)), .unset, .unset, .unset, .unset, .unset, .unset, .unset, .unset, .unset, .unset] []))
    refine own_fin (b := T127_.setTop (mkF mM 190 #[.val (.int p1), .val (.int p2), .val (.int p3), .val (.int p4), .val (.int (13 : Int32)), .val (.int ev), .val (.int tv), .val (.int (1 : Int32)), .val (.int (0 : Int32)), .val (.int (1 : Int32)), .val (.int (1 : Int32)), .val (.int (3 : Int32)), .val (.ref b124_), .val (.int (3 : Int32)), .unset, .unset, .unset, .unset, .unset, .unset, .unset, .unset, .unset, .unset] [])) (fun tT kK => ?_) ?_
    · show Steps pP.tables eE below (T127_.setTop (mkF mM 187 #[.val (.int p1), .val (.int p2), .val (.int p3), .val (.int p4), .val (.int (13 : Int32)), .val (.int ev), .val (.int tv), .val (.int (1 : Int32)), .val (.int (0 : Int32)), .val (.int (1 : Int32)), .val (.int (1 : Int32)), .val (.int (3 : Int32)), .val (.ref b124_), .val (.int (2 : Int32)), .unset, .unset, .unset, .unset, .unset, .unset, .unset, .unset, .unset, .unset] [])) tT
      refine XS.iinc X127_.here hx rfl (Jvm.hb hby at_187) rfl (l' := #[.val (.int p1), .val (.int p2), .val (.int p3), .val (.int p4), .val (.int (13 : Int32)), .val (.int ev), .val (.int tv), .val (.int (1 : Int32)), .val (.int (0 : Int32)), .val (.int (1 : Int32)), .val (.int (1 : Int32)), .val (.int (3 : Int32)), .val (.ref b124_), .val (.int (3 : Int32)), .unset, .unset, .unset, .unset, .unset, .unset, .unset, .unset, .unset, .unset]) rfl ?_
      exact kK
    show own_Fin pP eE below _ (T127_.setTop (mkF mM 190 #[.val (.int p1), .val (.int p2), .val (.int p3), .val (.int p4), .val (.int (13 : Int32)), .val (.int ev), .val (.int tv), .val (.int (1 : Int32)), .val (.int (0 : Int32)), .val (.int (1 : Int32)), .val (.int (1 : Int32)), .val (.int (3 : Int32)), .val (.ref b124_), .val (.int (3 : Int32)), .unset, .unset, .unset, .unset, .unset, .unset, .unset, .unset, .unset, .unset] []))
    exact jp1_ (1 : Int32) (0 : Int32) (1 : Int32) (1 : Int32) (3 : Int32) b124_ (own_up (own_up (own_up (fun _ => (0 : Int32)) (0 : Int32) (0 : Int32)) (1 : Int32) (2 : Int32)) (2 : Int32) (3 : Int32)) _ _ _ _ own_St13 ge_b124_ X127_ e127_ K127_ U127_ N127_
  · show own_Fin pP eE below _ (s₁.setTop (mkF mM 23 #[.val (.int p1), .val (.int p2), .val (.int p3), .val (.int p4), .val (.int (14 : Int32)), .val (.int ev), .val (.int tv), .unset, .unset, .unset, .unset, .unset, .unset, .unset, .unset, .unset, .unset, .unset, .unset, .unset, .unset, .unset, .unset, .unset] []))
    refine own_fin (b := s₁.setTop (mkF mM 127 #[.val (.int p1), .val (.int p2), .val (.int p3), .val (.int p4), .val (.int (14 : Int32)), .val (.int ev), .val (.int tv), .val (.int (0 : Int32)), .val (.int (1 : Int32)), .val (.int (1 : Int32)), .val (.int (1 : Int32)), .val (.int (3 : Int32)), .unset, .unset, .unset, .unset, .unset, .unset, .unset, .unset, .unset, .unset, .unset, .unset] [(.int (3 : Int32))])) (fun tT kK => ?_) ?_
    · show Steps pP.tables eE below (s₁.setTop (mkF mM 23 #[.val (.int p1), .val (.int p2), .val (.int p3), .val (.int p4), .val (.int (14 : Int32)), .val (.int ev), .val (.int tv), .unset, .unset, .unset, .unset, .unset, .unset, .unset, .unset, .unset, .unset, .unset, .unset, .unset, .unset, .unset, .unset, .unset] [])) tT
      refine XS.iload X0.here hx rfl (Jvm.hb hby at_23) rfl ?_
      refine XS.iconst X0.here hx rfl (Jvm.hb hby at_25) ?_
      refine XS.iand X0.here hx rfl (Jvm.hb hby at_26) rfl ?_
      refine XS.ifYes X0.here hx rfl (pc0 := 27) (pc' := 34) rfl (Jvm.hb hby at_27) rfl ((if0 _ _).trans (teq ((by decide) : (0 : Int32) = (0 : Int32))).1) (by decide) (by decide) ?_
      refine XS.iconst X0.here hx rfl (Jvm.hb hby at_34) ?_
      refine XS.istore X0.here hx rfl (Jvm.hb hby at_35) rfl (l' := #[.val (.int p1), .val (.int p2), .val (.int p3), .val (.int p4), .val (.int (14 : Int32)), .val (.int ev), .val (.int tv), .val (.int (0 : Int32)), .unset, .unset, .unset, .unset, .unset, .unset, .unset, .unset, .unset, .unset, .unset, .unset, .unset, .unset, .unset, .unset]) rfl ?_
      show Steps pP.tables eE below (s₁.setTop (mkF mM 37 #[.val (.int p1), .val (.int p2), .val (.int p3), .val (.int p4), .val (.int (14 : Int32)), .val (.int ev), .val (.int tv), .val (.int (0 : Int32)), .unset, .unset, .unset, .unset, .unset, .unset, .unset, .unset, .unset, .unset, .unset, .unset, .unset, .unset, .unset, .unset] [])) tT
      refine XS.iload X0.here hx rfl (Jvm.hb hby at_37) rfl ?_
      refine XS.iconst X0.here hx rfl (Jvm.hb hby at_39) ?_
      refine XS.iand X0.here hx rfl (Jvm.hb hby at_40) rfl ?_
      refine XS.ifNo X0.here hx rfl (Jvm.hb hby at_41) rfl ((if0 _ _).trans (feq ((by decide) : ¬ ((2 : Int32) = (0 : Int32)))).1) ?_
      refine XS.iconst X0.here hx rfl (Jvm.hb hby at_44) ?_
      refine XS.goto X0.here hx rfl (pc0 := 45) (pc' := 49) rfl (Jvm.hb hby at_45) (by decide) (by decide) ?_
      show Steps pP.tables eE below (s₁.setTop (mkF mM 49 #[.val (.int p1), .val (.int p2), .val (.int p3), .val (.int p4), .val (.int (14 : Int32)), .val (.int ev), .val (.int tv), .val (.int (0 : Int32)), .unset, .unset, .unset, .unset, .unset, .unset, .unset, .unset, .unset, .unset, .unset, .unset, .unset, .unset, .unset, .unset] [(.int (1 : Int32))])) tT
      refine XS.istore X0.here hx rfl (Jvm.hb hby at_49) rfl (l' := #[.val (.int p1), .val (.int p2), .val (.int p3), .val (.int p4), .val (.int (14 : Int32)), .val (.int ev), .val (.int tv), .val (.int (0 : Int32)), .val (.int (1 : Int32)), .unset, .unset, .unset, .unset, .unset, .unset, .unset, .unset, .unset, .unset, .unset, .unset, .unset, .unset, .unset]) rfl ?_
      refine XS.iload X0.here hx rfl (Jvm.hb hby at_51) rfl ?_
      refine XS.iconst X0.here hx rfl (Jvm.hb hby at_53) ?_
      refine XS.iand X0.here hx rfl (Jvm.hb hby at_54) rfl ?_
      refine XS.ifNo X0.here hx rfl (Jvm.hb hby at_55) rfl ((if0 _ _).trans (feq ((by decide) : ¬ ((4 : Int32) = (0 : Int32)))).1) ?_
      refine XS.iconst X0.here hx rfl (Jvm.hb hby at_58) ?_
      show Steps pP.tables eE below (s₁.setTop (mkF mM 59 #[.val (.int p1), .val (.int p2), .val (.int p3), .val (.int p4), .val (.int (14 : Int32)), .val (.int ev), .val (.int tv), .val (.int (0 : Int32)), .val (.int (1 : Int32)), .unset, .unset, .unset, .unset, .unset, .unset, .unset, .unset, .unset, .unset, .unset, .unset, .unset, .unset, .unset] [(.int (1 : Int32))])) tT
      refine XS.goto X0.here hx rfl (pc0 := 59) (pc' := 63) rfl (Jvm.hb hby at_59) (by decide) (by decide) ?_
      refine XS.istore X0.here hx rfl (Jvm.hb hby at_63) rfl (l' := #[.val (.int p1), .val (.int p2), .val (.int p3), .val (.int p4), .val (.int (14 : Int32)), .val (.int ev), .val (.int tv), .val (.int (0 : Int32)), .val (.int (1 : Int32)), .val (.int (1 : Int32)), .unset, .unset, .unset, .unset, .unset, .unset, .unset, .unset, .unset, .unset, .unset, .unset, .unset, .unset]) rfl ?_
      refine XS.iload X0.here hx rfl (Jvm.hb hby at_65) rfl ?_
      refine XS.bipush X0.here hx rfl (Jvm.hb hby at_67) ?_
      refine XS.iand X0.here hx rfl (Jvm.hb hby at_69) rfl ?_
      refine XS.ifNo X0.here hx rfl (Jvm.hb hby at_70) rfl ((if0 _ _).trans (feq ((by decide) : ¬ ((8 : Int32) = (0 : Int32)))).1) ?_
      show Steps pP.tables eE below (s₁.setTop (mkF mM 73 #[.val (.int p1), .val (.int p2), .val (.int p3), .val (.int p4), .val (.int (14 : Int32)), .val (.int ev), .val (.int tv), .val (.int (0 : Int32)), .val (.int (1 : Int32)), .val (.int (1 : Int32)), .unset, .unset, .unset, .unset, .unset, .unset, .unset, .unset, .unset, .unset, .unset, .unset, .unset, .unset] [])) tT
      refine XS.iconst X0.here hx rfl (Jvm.hb hby at_73) ?_
      refine XS.goto X0.here hx rfl (pc0 := 74) (pc' := 78) rfl (Jvm.hb hby at_74) (by decide) (by decide) ?_
      refine XS.istore X0.here hx rfl (Jvm.hb hby at_78) rfl (l' := #[.val (.int p1), .val (.int p2), .val (.int p3), .val (.int p4), .val (.int (14 : Int32)), .val (.int ev), .val (.int tv), .val (.int (0 : Int32)), .val (.int (1 : Int32)), .val (.int (1 : Int32)), .val (.int (1 : Int32)), .unset, .unset, .unset, .unset, .unset, .unset, .unset, .unset, .unset, .unset, .unset, .unset, .unset]) rfl ?_
      refine XS.iload X0.here hx rfl (Jvm.hb hby at_80) rfl ?_
      refine XS.ifYes X0.here hx rfl (pc0 := 82) (pc' := 89) rfl (Jvm.hb hby at_82) rfl ((if0 _ _).trans (teq ((by decide) : (0 : Int32) = (0 : Int32))).1) (by decide) (by decide) ?_
      refine XS.iconst X0.here hx rfl (Jvm.hb hby at_89) ?_
      show Steps pP.tables eE below (s₁.setTop (mkF mM 90 #[.val (.int p1), .val (.int p2), .val (.int p3), .val (.int p4), .val (.int (14 : Int32)), .val (.int ev), .val (.int tv), .val (.int (0 : Int32)), .val (.int (1 : Int32)), .val (.int (1 : Int32)), .val (.int (1 : Int32)), .unset, .unset, .unset, .unset, .unset, .unset, .unset, .unset, .unset, .unset, .unset, .unset, .unset] [(.int (0 : Int32))])) tT
      refine XS.iload X0.here hx rfl (Jvm.hb hby at_90) rfl ?_
      refine XS.ifNo X0.here hx rfl (Jvm.hb hby at_92) rfl ((if0 _ _).trans (feq ((by decide) : ¬ ((1 : Int32) = (0 : Int32)))).1) ?_
      refine XS.iconst X0.here hx rfl (Jvm.hb hby at_95) ?_
      refine XS.goto X0.here hx rfl (pc0 := 96) (pc' := 100) rfl (Jvm.hb hby at_96) (by decide) (by decide) ?_
      refine XS.iadd X0.here hx rfl (Jvm.hb hby at_100) rfl ?_
      refine XS.iload X0.here hx rfl (Jvm.hb hby at_101) rfl ?_
      show Steps pP.tables eE below (s₁.setTop (mkF mM 103 #[.val (.int p1), .val (.int p2), .val (.int p3), .val (.int p4), .val (.int (14 : Int32)), .val (.int ev), .val (.int tv), .val (.int (0 : Int32)), .val (.int (1 : Int32)), .val (.int (1 : Int32)), .val (.int (1 : Int32)), .unset, .unset, .unset, .unset, .unset, .unset, .unset, .unset, .unset, .unset, .unset, .unset, .unset] [(.int (1 : Int32)), (.int (1 : Int32))])) tT
      refine XS.ifNo X0.here hx rfl (Jvm.hb hby at_103) rfl ((if0 _ _).trans (feq ((by decide) : ¬ ((1 : Int32) = (0 : Int32)))).1) ?_
      refine XS.iconst X0.here hx rfl (Jvm.hb hby at_106) ?_
      refine XS.goto X0.here hx rfl (pc0 := 107) (pc' := 111) rfl (Jvm.hb hby at_107) (by decide) (by decide) ?_
      refine XS.iadd X0.here hx rfl (Jvm.hb hby at_111) rfl ?_
      refine XS.iload X0.here hx rfl (Jvm.hb hby at_112) rfl ?_
      refine XS.ifNo X0.here hx rfl (Jvm.hb hby at_114) rfl ((if0 _ _).trans (feq ((by decide) : ¬ ((1 : Int32) = (0 : Int32)))).1) ?_
      show Steps pP.tables eE below (s₁.setTop (mkF mM 117 #[.val (.int p1), .val (.int p2), .val (.int p3), .val (.int p4), .val (.int (14 : Int32)), .val (.int ev), .val (.int tv), .val (.int (0 : Int32)), .val (.int (1 : Int32)), .val (.int (1 : Int32)), .val (.int (1 : Int32)), .unset, .unset, .unset, .unset, .unset, .unset, .unset, .unset, .unset, .unset, .unset, .unset, .unset] [(.int (2 : Int32))])) tT
      refine XS.iconst X0.here hx rfl (Jvm.hb hby at_117) ?_
      refine XS.goto X0.here hx rfl (pc0 := 118) (pc' := 122) rfl (Jvm.hb hby at_118) (by decide) (by decide) ?_
      refine XS.iadd X0.here hx rfl (Jvm.hb hby at_122) rfl ?_
      refine XS.istore X0.here hx rfl (Jvm.hb hby at_123) rfl (l' := #[.val (.int p1), .val (.int p2), .val (.int p3), .val (.int p4), .val (.int (14 : Int32)), .val (.int ev), .val (.int tv), .val (.int (0 : Int32)), .val (.int (1 : Int32)), .val (.int (1 : Int32)), .val (.int (1 : Int32)), .val (.int (3 : Int32)), .unset, .unset, .unset, .unset, .unset, .unset, .unset, .unset, .unset, .unset, .unset, .unset]) rfl ?_
      refine XS.iload X0.here hx rfl (Jvm.hb hby at_125) rfl ?_
      exact kK
    obtain ⟨T128_, h128_, k128_, X128_, e128_, E128_, A128_, st128_⟩ := newP X0 hx hZ (hw _ (List.mem_of_getElem? (i := 1) rfl)) e0 (g := (mkF mM 127 #[.val (.int p1), .val (.int p2), .val (.int p3), .val (.int p4), .val (.int (14 : Int32)), .val (.int ev), .val (.int tv), .val (.int (0 : Int32)), .val (.int (1 : Int32)), .val (.int (1 : Int32)), .val (.int (1 : Int32)), .val (.int (3 : Int32)), .unset, .unset, .unset, .unset, .unset, .unset, .unset, .unset, .unset, .unset, .unset, .unset] [(.int (3 : Int32))])) rfl (Jvm.hb hby at_127) rfl (by decide) (cap := 4) (by decide) (by decide) (by decide) (by decide)
    obtain ⟨b128_, g128_⟩ : ∃ z, z = h0.size := ⟨_, rfl⟩
    rw [← g128_] at A128_ st128_
    have sz_b128_ : h0.size ≤ b128_ := Nat.le_trans K0.1 (Nat.le_of_eq g128_.symm)
    have ge_b128_ : n0 ≤ b128_ := Nat.le_trans Z0 sz_b128_
    have K128_ := K0.ext E128_
    have V128_ : own_T Z h128_ b128_ .int (3 : Int32) (fun _ => (0 : Int32)) := own_T.new A128_ (by decide) rfl
    refine own_fin st128_ ?_
    show own_Fin pP eE below _ (T128_.setTop (mkF mM 129 #[.val (.int p1), .val (.int p2), .val (.int p3), .val (.int p4), .val (.int (14 : Int32)), .val (.int ev), .val (.int tv), .val (.int (0 : Int32)), .val (.int (1 : Int32)), .val (.int (1 : Int32)), .val (.int (1 : Int32)), .val (.int (3 : Int32)), .unset, .unset, .unset, .unset, .unset, .unset, .unset, .unset, .unset, .unset, .unset, .unset] [(.ref b128_)]))
    refine own_fin (b := T128_.setTop (mkF mM 158 #[.val (.int p1), .val (.int p2), .val (.int p3), .val (.int p4), .val (.int (14 : Int32)), .val (.int ev), .val (.int tv), .val (.int (0 : Int32)), .val (.int (1 : Int32)), .val (.int (1 : Int32)), .val (.int (1 : Int32)), .val (.int (3 : Int32)), .val (.ref b128_), .val (.int (0 : Int32)), .unset, .unset, .unset, .unset, .unset, .unset, .unset, .unset, .unset, .unset] [(.int (1 : Int32)), (.int (0 : Int32)), (.ref b128_)])) (fun tT kK => ?_) ?_
    · show Steps pP.tables eE below (T128_.setTop (mkF mM 129 #[.val (.int p1), .val (.int p2), .val (.int p3), .val (.int p4), .val (.int (14 : Int32)), .val (.int ev), .val (.int tv), .val (.int (0 : Int32)), .val (.int (1 : Int32)), .val (.int (1 : Int32)), .val (.int (1 : Int32)), .val (.int (3 : Int32)), .unset, .unset, .unset, .unset, .unset, .unset, .unset, .unset, .unset, .unset, .unset, .unset] [(.ref b128_)])) tT
      refine XS.astore X128_.here hx rfl (Jvm.hb hby at_129) rfl rfl (l' := #[.val (.int p1), .val (.int p2), .val (.int p3), .val (.int p4), .val (.int (14 : Int32)), .val (.int ev), .val (.int tv), .val (.int (0 : Int32)), .val (.int (1 : Int32)), .val (.int (1 : Int32)), .val (.int (1 : Int32)), .val (.int (3 : Int32)), .val (.ref b128_), .unset, .unset, .unset, .unset, .unset, .unset, .unset, .unset, .unset, .unset, .unset]) rfl ?_
      show Steps pP.tables eE below (T128_.setTop (mkF mM 131 #[.val (.int p1), .val (.int p2), .val (.int p3), .val (.int p4), .val (.int (14 : Int32)), .val (.int ev), .val (.int tv), .val (.int (0 : Int32)), .val (.int (1 : Int32)), .val (.int (1 : Int32)), .val (.int (1 : Int32)), .val (.int (3 : Int32)), .val (.ref b128_), .unset, .unset, .unset, .unset, .unset, .unset, .unset, .unset, .unset, .unset, .unset] [])) tT
      refine XS.iconst X128_.here hx rfl (Jvm.hb hby at_131) ?_
      refine XS.istore X128_.here hx rfl (Jvm.hb hby at_132) rfl (l' := #[.val (.int p1), .val (.int p2), .val (.int p3), .val (.int p4), .val (.int (14 : Int32)), .val (.int ev), .val (.int tv), .val (.int (0 : Int32)), .val (.int (1 : Int32)), .val (.int (1 : Int32)), .val (.int (1 : Int32)), .val (.int (3 : Int32)), .val (.ref b128_), .val (.int (0 : Int32)), .unset, .unset, .unset, .unset, .unset, .unset, .unset, .unset, .unset, .unset]) rfl ?_
      refine XS.iload X128_.here hx rfl (Jvm.hb hby at_134) rfl ?_
      refine XS.ifYes X128_.here hx rfl (pc0 := 136) (pc' := 148) rfl (Jvm.hb hby at_136) rfl ((if0 _ _).trans (teq ((by decide) : (0 : Int32) = (0 : Int32))).1) (by decide) (by decide) ?_
      refine XS.iload X128_.here hx rfl (Jvm.hb hby at_148) rfl ?_
      refine XS.ifNo X128_.here hx rfl (Jvm.hb hby at_150) rfl ((if0 _ _).trans (feq ((by decide) : ¬ ((1 : Int32) = (0 : Int32)))).1) ?_
      show Steps pP.tables eE below (T128_.setTop (mkF mM 153 #[.val (.int p1), .val (.int p2), .val (.int p3), .val (.int p4), .val (.int (14 : Int32)), .val (.int ev), .val (.int tv), .val (.int (0 : Int32)), .val (.int (1 : Int32)), .val (.int (1 : Int32)), .val (.int (1 : Int32)), .val (.int (3 : Int32)), .val (.ref b128_), .val (.int (0 : Int32)), .unset, .unset, .unset, .unset, .unset, .unset, .unset, .unset, .unset, .unset] [])) tT
      refine XS.aload X128_.here hx rfl (Jvm.hb hby at_153) rfl rfl ?_
      refine XS.iload X128_.here hx rfl (Jvm.hb hby at_155) rfl ?_
      refine XS.iconst X128_.here hx rfl (Jvm.hb hby at_157) ?_
      exact kK
    obtain ⟨cl129_, Ar129_, Sz129_, Nn129_, Hh129_⟩ := id V128_
    have hin129_ : ¬ ((0 : Int32) < 0 ∨ cl129_.slots.size ≤ ((0 : Int32)).toNatClampNeg) := inb_of Sz129_ ⟨by decide, by decide⟩
    obtain ⟨T129_, h129_, X129_, e129_, W129_, st129_⟩ := stI X128_ hx hZ e128_ Ar129_ (j := (0 : Int32)) hin129_ (g := (mkF mM 158 #[.val (.int p1), .val (.int p2), .val (.int p3), .val (.int p4), .val (.int (14 : Int32)), .val (.int ev), .val (.int tv), .val (.int (0 : Int32)), .val (.int (1 : Int32)), .val (.int (1 : Int32)), .val (.int (1 : Int32)), .val (.int (3 : Int32)), .val (.ref b128_), .val (.int (0 : Int32)), .unset, .unset, .unset, .unset, .unset, .unset, .unset, .unset, .unset, .unset] [(.int (1 : Int32)), (.int (0 : Int32)), (.ref b128_)])) rfl rfl (Jvm.hb hby at_158)
    have U129_ : own_T Z h129_ b128_ .int (3 : Int32) (own_up (fun _ => (0 : Int32)) (0 : Int32) (1 : Int32)) := own_T.set ⟨cl129_, Ar129_, Sz129_, Nn129_, Hh129_⟩ W129_ ⟨by decide, by decide⟩
    have K129_ := K128_.wr W129_ (Or.inr sz_b128_)
    have N129_ := Fr.snoc X129_ N0 ge_b128_
    refine own_fin st129_ ?_
    show own_Fin pP eE below _ (T129_.setTop (mkF mM 159 #[.val (.int p1), .val (.int p2), .val (.int p3), .val (.int p4), .val (.int (14 : Int32)), .val (.int ev), .val (.int tv), .val (.int (0 : Int32)), .val (.int (1 : Int32)), .val (.int (1 : Int32)), .val (.int (1 : Int32)), .val (.int (3 : Int32)), .val (.ref b128_), .val (.int (0 : Int32)), .unset, .unset, .unset, .unset, .unset, .unset, .unset, .unset, .unset, .unset] []))
    refine own_fin (b := T129_.setTop (mkF mM 172 #[.val (.int p1), .val (.int p2), .val (.int p3), .val (.int p4), .val (.int (14 : Int32)), .val (.int ev), .val (.int tv), .val (.int (0 : Int32)), .val (.int (1 : Int32)), .val (.int (1 : Int32)), .val (.int (1 : Int32)), .val (.int (3 : Int32)), .val (.ref b128_), .val (.int (1 : Int32)), .unset, .unset, .unset, .unset, .unset, .unset, .unset, .unset, .unset, .unset] [(.int (2 : Int32)), (.int (1 : Int32)), (.ref b128_)])) (fun tT kK => ?_) ?_
    · show Steps pP.tables eE below (T129_.setTop (mkF mM 159 #[.val (.int p1), .val (.int p2), .val (.int p3), .val (.int p4), .val (.int (14 : Int32)), .val (.int ev), .val (.int tv), .val (.int (0 : Int32)), .val (.int (1 : Int32)), .val (.int (1 : Int32)), .val (.int (1 : Int32)), .val (.int (3 : Int32)), .val (.ref b128_), .val (.int (0 : Int32)), .unset, .unset, .unset, .unset, .unset, .unset, .unset, .unset, .unset, .unset] [])) tT
      refine XS.iinc X129_.here hx rfl (Jvm.hb hby at_159) rfl (l' := #[.val (.int p1), .val (.int p2), .val (.int p3), .val (.int p4), .val (.int (14 : Int32)), .val (.int ev), .val (.int tv), .val (.int (0 : Int32)), .val (.int (1 : Int32)), .val (.int (1 : Int32)), .val (.int (1 : Int32)), .val (.int (3 : Int32)), .val (.ref b128_), .val (.int (1 : Int32)), .unset, .unset, .unset, .unset, .unset, .unset, .unset, .unset, .unset, .unset]) rfl ?_
      refine XS.iload X129_.here hx rfl (Jvm.hb hby at_162) rfl ?_
      refine XS.ifNo X129_.here hx rfl (Jvm.hb hby at_164) rfl ((if0 _ _).trans (feq ((by decide) : ¬ ((1 : Int32) = (0 : Int32)))).1) ?_
      show Steps pP.tables eE below (T129_.setTop (mkF mM 167 #[.val (.int p1), .val (.int p2), .val (.int p3), .val (.int p4), .val (.int (14 : Int32)), .val (.int ev), .val (.int tv), .val (.int (0 : Int32)), .val (.int (1 : Int32)), .val (.int (1 : Int32)), .val (.int (1 : Int32)), .val (.int (3 : Int32)), .val (.ref b128_), .val (.int (1 : Int32)), .unset, .unset, .unset, .unset, .unset, .unset, .unset, .unset, .unset, .unset] [])) tT
      refine XS.aload X129_.here hx rfl (Jvm.hb hby at_167) rfl rfl ?_
      refine XS.iload X129_.here hx rfl (Jvm.hb hby at_169) rfl ?_
      refine XS.iconst X129_.here hx rfl (Jvm.hb hby at_171) ?_
      exact kK
    obtain ⟨cl130_, Ar130_, Sz130_, Nn130_, Hh130_⟩ := id U129_
    have hin130_ : ¬ ((1 : Int32) < 0 ∨ cl130_.slots.size ≤ ((1 : Int32)).toNatClampNeg) := inb_of Sz130_ ⟨by decide, by decide⟩
    obtain ⟨T130_, h130_, X130_, e130_, W130_, st130_⟩ := stI X129_ hx hZ e129_ Ar130_ (j := (1 : Int32)) hin130_ (g := (mkF mM 172 #[.val (.int p1), .val (.int p2), .val (.int p3), .val (.int p4), .val (.int (14 : Int32)), .val (.int ev), .val (.int tv), .val (.int (0 : Int32)), .val (.int (1 : Int32)), .val (.int (1 : Int32)), .val (.int (1 : Int32)), .val (.int (3 : Int32)), .val (.ref b128_), .val (.int (1 : Int32)), .unset, .unset, .unset, .unset, .unset, .unset, .unset, .unset, .unset, .unset] [(.int (2 : Int32)), (.int (1 : Int32)), (.ref b128_)])) rfl rfl (Jvm.hb hby at_172)
    have U130_ : own_T Z h130_ b128_ .int (3 : Int32) (own_up (own_up (fun _ => (0 : Int32)) (0 : Int32) (1 : Int32)) (1 : Int32) (2 : Int32)) := own_T.set ⟨cl130_, Ar130_, Sz130_, Nn130_, Hh130_⟩ W130_ ⟨by decide, by decide⟩
    have K130_ := K129_.wr W130_ (Or.inr sz_b128_)
    have N130_ := Fr.snoc X130_ N129_ ge_b128_
    refine own_fin st130_ ?_
    show own_Fin pP eE below _ (T130_.setTop (mkF mM 173 #[.val (.int p1), .val (.int p2), .val (.int p3), .val (.int p4), .val (.int (14 : Int32)), .val (.int ev), .val (.int tv), .val (.int (0 : Int32)), .val (.int (1 : Int32)), .val (.int (1 : Int32)), .val (.int (1 : Int32)), .val (.int (3 : Int32)), .val (.ref b128_), .val (.int (1 : Int32)), .unset, .unset, .unset, .unset, .unset, .unset, .unset, .unset, .unset, .unset] []))
    refine own_fin (b := T130_.setTop (mkF mM 186 #[.val (.int p1), .val (.int p2), .val (.int p3), .val (.int p4), .val (.int (14 : Int32)), .val (.int ev), .val (.int tv), .val (.int (0 : Int32)), .val (.int (1 : Int32)), .val (.int (1 : Int32)), .val (.int (1 : Int32)), .val (.int (3 : Int32)), .val (.ref b128_), .val (.int (2 : Int32)), .unset, .unset, .unset, .unset, .unset, .unset, .unset, .unset, .unset, .unset] [(.int (3 : Int32)), (.int (2 : Int32)), (.ref b128_)])) (fun tT kK => ?_) ?_
    · show Steps pP.tables eE below (T130_.setTop (mkF mM 173 #[.val (.int p1), .val (.int p2), .val (.int p3), .val (.int p4), .val (.int (14 : Int32)), .val (.int ev), .val (.int tv), .val (.int (0 : Int32)), .val (.int (1 : Int32)), .val (.int (1 : Int32)), .val (.int (1 : Int32)), .val (.int (3 : Int32)), .val (.ref b128_), .val (.int (1 : Int32)), .unset, .unset, .unset, .unset, .unset, .unset, .unset, .unset, .unset, .unset] [])) tT
      refine XS.iinc X130_.here hx rfl (Jvm.hb hby at_173) rfl (l' := #[.val (.int p1), .val (.int p2), .val (.int p3), .val (.int p4), .val (.int (14 : Int32)), .val (.int ev), .val (.int tv), .val (.int (0 : Int32)), .val (.int (1 : Int32)), .val (.int (1 : Int32)), .val (.int (1 : Int32)), .val (.int (3 : Int32)), .val (.ref b128_), .val (.int (2 : Int32)), .unset, .unset, .unset, .unset, .unset, .unset, .unset, .unset, .unset, .unset]) rfl ?_
      refine XS.iload X130_.here hx rfl (Jvm.hb hby at_176) rfl ?_
      refine XS.ifNo X130_.here hx rfl (Jvm.hb hby at_178) rfl ((if0 _ _).trans (feq ((by decide) : ¬ ((1 : Int32) = (0 : Int32)))).1) ?_
      show Steps pP.tables eE below (T130_.setTop (mkF mM 181 #[.val (.int p1), .val (.int p2), .val (.int p3), .val (.int p4), .val (.int (14 : Int32)), .val (.int ev), .val (.int tv), .val (.int (0 : Int32)), .val (.int (1 : Int32)), .val (.int (1 : Int32)), .val (.int (1 : Int32)), .val (.int (3 : Int32)), .val (.ref b128_), .val (.int (2 : Int32)), .unset, .unset, .unset, .unset, .unset, .unset, .unset, .unset, .unset, .unset] [])) tT
      refine XS.aload X130_.here hx rfl (Jvm.hb hby at_181) rfl rfl ?_
      refine XS.iload X130_.here hx rfl (Jvm.hb hby at_183) rfl ?_
      refine XS.iconst X130_.here hx rfl (Jvm.hb hby at_185) ?_
      exact kK
    obtain ⟨cl131_, Ar131_, Sz131_, Nn131_, Hh131_⟩ := id U130_
    have hin131_ : ¬ ((2 : Int32) < 0 ∨ cl131_.slots.size ≤ ((2 : Int32)).toNatClampNeg) := inb_of Sz131_ ⟨by decide, by decide⟩
    obtain ⟨T131_, h131_, X131_, e131_, W131_, st131_⟩ := stI X130_ hx hZ e130_ Ar131_ (j := (2 : Int32)) hin131_ (g := (mkF mM 186 #[.val (.int p1), .val (.int p2), .val (.int p3), .val (.int p4), .val (.int (14 : Int32)), .val (.int ev), .val (.int tv), .val (.int (0 : Int32)), .val (.int (1 : Int32)), .val (.int (1 : Int32)), .val (.int (1 : Int32)), .val (.int (3 : Int32)), .val (.ref b128_), .val (.int (2 : Int32)), .unset, .unset, .unset, .unset, .unset, .unset, .unset, .unset, .unset, .unset] [(.int (3 : Int32)), (.int (2 : Int32)), (.ref b128_)])) rfl rfl (Jvm.hb hby at_186)
    have U131_ : own_T Z h131_ b128_ .int (3 : Int32) (own_up (own_up (own_up (fun _ => (0 : Int32)) (0 : Int32) (1 : Int32)) (1 : Int32) (2 : Int32)) (2 : Int32) (3 : Int32)) := own_T.set ⟨cl131_, Ar131_, Sz131_, Nn131_, Hh131_⟩ W131_ ⟨by decide, by decide⟩
    have K131_ := K130_.wr W131_ (Or.inr sz_b128_)
    have N131_ := Fr.snoc X131_ N130_ ge_b128_
    refine own_fin st131_ ?_
    show own_Fin pP eE below _ (T131_.setTop (mkF mM 187 #[.val (.int p1), .val (.int p2), .val (.int p3), .val (.int p4), .val (.int (14 : Int32)), .val (.int ev), .val (.int tv), .val (.int (0 : Int32)), .val (.int (1 : Int32)), .val (.int (1 : Int32)), .val (.int (1 : Int32)), .val (.int (3 : Int32)), .val (.ref b128_), .val (.int (2 : Int32)), .unset, .unset, .unset, .unset, .unset, .unset, .unset, .unset, .unset, .unset] []))
    refine own_fin (b := T131_.setTop (mkF mM 190 #[.val (.int p1), .val (.int p2), .val (.int p3), .val (.int p4), .val (.int (14 : Int32)), .val (.int ev), .val (.int tv), .val (.int (0 : Int32)), .val (.int (1 : Int32)), .val (.int (1 : Int32)), .val (.int (1 : Int32)), .val (.int (3 : Int32)), .val (.ref b128_), .val (.int (3 : Int32)), .unset, .unset, .unset, .unset, .unset, .unset, .unset, .unset, .unset, .unset] [])) (fun tT kK => ?_) ?_
    · show Steps pP.tables eE below (T131_.setTop (mkF mM 187 #[.val (.int p1), .val (.int p2), .val (.int p3), .val (.int p4), .val (.int (14 : Int32)), .val (.int ev), .val (.int tv), .val (.int (0 : Int32)), .val (.int (1 : Int32)), .val (.int (1 : Int32)), .val (.int (1 : Int32)), .val (.int (3 : Int32)), .val (.ref b128_), .val (.int (2 : Int32)), .unset, .unset, .unset, .unset, .unset, .unset, .unset, .unset, .unset, .unset] [])) tT
      refine XS.iinc X131_.here hx rfl (Jvm.hb hby at_187) rfl (l' := #[.val (.int p1), .val (.int p2), .val (.int p3), .val (.int p4), .val (.int (14 : Int32)), .val (.int ev), .val (.int tv), .val (.int (0 : Int32)), .val (.int (1 : Int32)), .val (.int (1 : Int32)), .val (.int (1 : Int32)), .val (.int (3 : Int32)), .val (.ref b128_), .val (.int (3 : Int32)), .unset, .unset, .unset, .unset, .unset, .unset, .unset, .unset, .unset, .unset]) rfl ?_
      exact kK
    show own_Fin pP eE below _ (T131_.setTop (mkF mM 190 #[.val (.int p1), .val (.int p2), .val (.int p3), .val (.int p4), .val (.int (14 : Int32)), .val (.int ev), .val (.int tv), .val (.int (0 : Int32)), .val (.int (1 : Int32)), .val (.int (1 : Int32)), .val (.int (1 : Int32)), .val (.int (3 : Int32)), .val (.ref b128_), .val (.int (3 : Int32)), .unset, .unset, .unset, .unset, .unset, .unset, .unset, .unset, .unset, .unset] []))
    exact jp1_ (0 : Int32) (1 : Int32) (1 : Int32) (1 : Int32) (3 : Int32) b128_ (own_up (own_up (own_up (fun _ => (0 : Int32)) (0 : Int32) (1 : Int32)) (1 : Int32) (2 : Int32)) (2 : Int32) (3 : Int32)) _ _ _ _ own_St14 ge_b128_ X131_ e131_ K131_ U131_ N131_
  · show own_Fin pP eE below _ (s₁.setTop (mkF mM 23 #[.val (.int p1), .val (.int p2), .val (.int p3), .val (.int p4), .val (.int (15 : Int32)), .val (.int ev), .val (.int tv), .unset, .unset, .unset, .unset, .unset, .unset, .unset, .unset, .unset, .unset, .unset, .unset, .unset, .unset, .unset, .unset, .unset] []))
    refine own_fin (b := s₁.setTop (mkF mM 127 #[.val (.int p1), .val (.int p2), .val (.int p3), .val (.int p4), .val (.int (15 : Int32)), .val (.int ev), .val (.int tv), .val (.int (1 : Int32)), .val (.int (1 : Int32)), .val (.int (1 : Int32)), .val (.int (1 : Int32)), .val (.int (4 : Int32)), .unset, .unset, .unset, .unset, .unset, .unset, .unset, .unset, .unset, .unset, .unset, .unset] [(.int (4 : Int32))])) (fun tT kK => ?_) ?_
    · show Steps pP.tables eE below (s₁.setTop (mkF mM 23 #[.val (.int p1), .val (.int p2), .val (.int p3), .val (.int p4), .val (.int (15 : Int32)), .val (.int ev), .val (.int tv), .unset, .unset, .unset, .unset, .unset, .unset, .unset, .unset, .unset, .unset, .unset, .unset, .unset, .unset, .unset, .unset, .unset] [])) tT
      refine XS.iload X0.here hx rfl (Jvm.hb hby at_23) rfl ?_
      refine XS.iconst X0.here hx rfl (Jvm.hb hby at_25) ?_
      refine XS.iand X0.here hx rfl (Jvm.hb hby at_26) rfl ?_
      refine XS.ifNo X0.here hx rfl (Jvm.hb hby at_27) rfl ((if0 _ _).trans (feq ((by decide) : ¬ ((1 : Int32) = (0 : Int32)))).1) ?_
      refine XS.iconst X0.here hx rfl (Jvm.hb hby at_30) ?_
      refine XS.goto X0.here hx rfl (pc0 := 31) (pc' := 35) rfl (Jvm.hb hby at_31) (by decide) (by decide) ?_
      show Steps pP.tables eE below (s₁.setTop (mkF mM 35 #[.val (.int p1), .val (.int p2), .val (.int p3), .val (.int p4), .val (.int (15 : Int32)), .val (.int ev), .val (.int tv), .unset, .unset, .unset, .unset, .unset, .unset, .unset, .unset, .unset, .unset, .unset, .unset, .unset, .unset, .unset, .unset, .unset] [(.int (1 : Int32))])) tT
      refine XS.istore X0.here hx rfl (Jvm.hb hby at_35) rfl (l' := #[.val (.int p1), .val (.int p2), .val (.int p3), .val (.int p4), .val (.int (15 : Int32)), .val (.int ev), .val (.int tv), .val (.int (1 : Int32)), .unset, .unset, .unset, .unset, .unset, .unset, .unset, .unset, .unset, .unset, .unset, .unset, .unset, .unset, .unset, .unset]) rfl ?_
      refine XS.iload X0.here hx rfl (Jvm.hb hby at_37) rfl ?_
      refine XS.iconst X0.here hx rfl (Jvm.hb hby at_39) ?_
      refine XS.iand X0.here hx rfl (Jvm.hb hby at_40) rfl ?_
      refine XS.ifNo X0.here hx rfl (Jvm.hb hby at_41) rfl ((if0 _ _).trans (feq ((by decide) : ¬ ((2 : Int32) = (0 : Int32)))).1) ?_
      refine XS.iconst X0.here hx rfl (Jvm.hb hby at_44) ?_
      show Steps pP.tables eE below (s₁.setTop (mkF mM 45 #[.val (.int p1), .val (.int p2), .val (.int p3), .val (.int p4), .val (.int (15 : Int32)), .val (.int ev), .val (.int tv), .val (.int (1 : Int32)), .unset, .unset, .unset, .unset, .unset, .unset, .unset, .unset, .unset, .unset, .unset, .unset, .unset, .unset, .unset, .unset] [(.int (1 : Int32))])) tT
      refine XS.goto X0.here hx rfl (pc0 := 45) (pc' := 49) rfl (Jvm.hb hby at_45) (by decide) (by decide) ?_
      refine XS.istore X0.here hx rfl (Jvm.hb hby at_49) rfl (l' := #[.val (.int p1), .val (.int p2), .val (.int p3), .val (.int p4), .val (.int (15 : Int32)), .val (.int ev), .val (.int tv), .val (.int (1 : Int32)), .val (.int (1 : Int32)), .unset, .unset, .unset, .unset, .unset, .unset, .unset, .unset, .unset, .unset, .unset, .unset, .unset, .unset, .unset]) rfl ?_
      refine XS.iload X0.here hx rfl (Jvm.hb hby at_51) rfl ?_
      refine XS.iconst X0.here hx rfl (Jvm.hb hby at_53) ?_
      refine XS.iand X0.here hx rfl (Jvm.hb hby at_54) rfl ?_
      refine XS.ifNo X0.here hx rfl (Jvm.hb hby at_55) rfl ((if0 _ _).trans (feq ((by decide) : ¬ ((4 : Int32) = (0 : Int32)))).1) ?_
      show Steps pP.tables eE below (s₁.setTop (mkF mM 58 #[.val (.int p1), .val (.int p2), .val (.int p3), .val (.int p4), .val (.int (15 : Int32)), .val (.int ev), .val (.int tv), .val (.int (1 : Int32)), .val (.int (1 : Int32)), .unset, .unset, .unset, .unset, .unset, .unset, .unset, .unset, .unset, .unset, .unset, .unset, .unset, .unset, .unset] [])) tT
      refine XS.iconst X0.here hx rfl (Jvm.hb hby at_58) ?_
      refine XS.goto X0.here hx rfl (pc0 := 59) (pc' := 63) rfl (Jvm.hb hby at_59) (by decide) (by decide) ?_
      refine XS.istore X0.here hx rfl (Jvm.hb hby at_63) rfl (l' := #[.val (.int p1), .val (.int p2), .val (.int p3), .val (.int p4), .val (.int (15 : Int32)), .val (.int ev), .val (.int tv), .val (.int (1 : Int32)), .val (.int (1 : Int32)), .val (.int (1 : Int32)), .unset, .unset, .unset, .unset, .unset, .unset, .unset, .unset, .unset, .unset, .unset, .unset, .unset, .unset]) rfl ?_
      refine XS.iload X0.here hx rfl (Jvm.hb hby at_65) rfl ?_
      refine XS.bipush X0.here hx rfl (Jvm.hb hby at_67) ?_
      refine XS.iand X0.here hx rfl (Jvm.hb hby at_69) rfl ?_
      show Steps pP.tables eE below (s₁.setTop (mkF mM 70 #[.val (.int p1), .val (.int p2), .val (.int p3), .val (.int p4), .val (.int (15 : Int32)), .val (.int ev), .val (.int tv), .val (.int (1 : Int32)), .val (.int (1 : Int32)), .val (.int (1 : Int32)), .unset, .unset, .unset, .unset, .unset, .unset, .unset, .unset, .unset, .unset, .unset, .unset, .unset, .unset] [(.int (8 : Int32))])) tT
      refine XS.ifNo X0.here hx rfl (Jvm.hb hby at_70) rfl ((if0 _ _).trans (feq ((by decide) : ¬ ((8 : Int32) = (0 : Int32)))).1) ?_
      refine XS.iconst X0.here hx rfl (Jvm.hb hby at_73) ?_
      refine XS.goto X0.here hx rfl (pc0 := 74) (pc' := 78) rfl (Jvm.hb hby at_74) (by decide) (by decide) ?_
      refine XS.istore X0.here hx rfl (Jvm.hb hby at_78) rfl (l' := #[.val (.int p1), .val (.int p2), .val (.int p3), .val (.int p4), .val (.int (15 : Int32)), .val (.int ev), .val (.int tv), .val (.int (1 : Int32)), .val (.int (1 : Int32)), .val (.int (1 : Int32)), .val (.int (1 : Int32)), .unset, .unset, .unset, .unset, .unset, .unset, .unset, .unset, .unset, .unset, .unset, .unset, .unset]) rfl ?_
      refine XS.iload X0.here hx rfl (Jvm.hb hby at_80) rfl ?_
      refine XS.ifNo X0.here hx rfl (Jvm.hb hby at_82) rfl ((if0 _ _).trans (feq ((by decide) : ¬ ((1 : Int32) = (0 : Int32)))).1) ?_
      show Steps pP.tables eE below (s₁.setTop (mkF mM 85 #[.val (.int p1), .val (.int p2), .val (.int p3), .val (.int p4), .val (.int (15 : Int32)), .val (.int ev), .val (.int tv), .val (.int (1 : Int32)), .val (.int (1 : Int32)), .val (.int (1 : Int32)), .val (.int (1 : Int32)), .unset, .unset, .unset, .unset, .unset, .unset, .unset, .unset, .unset, .unset, .unset, .unset, .unset] [])) tT
      refine XS.iconst X0.here hx rfl (Jvm.hb hby at_85) ?_
      refine XS.goto X0.here hx rfl (pc0 := 86) (pc' := 90) rfl (Jvm.hb hby at_86) (by decide) (by decide) ?_
      refine XS.iload X0.here hx rfl (Jvm.hb hby at_90) rfl ?_
      refine XS.ifNo X0.here hx rfl (Jvm.hb hby at_92) rfl ((if0 _ _).trans (feq ((by decide) : ¬ ((1 : Int32) = (0 : Int32)))).1) ?_
      refine XS.iconst X0.here hx rfl (Jvm.hb hby at_95) ?_
      refine XS.goto X0.here hx rfl (pc0 := 96) (pc' := 100) rfl (Jvm.hb hby at_96) (by decide) (by decide) ?_
      show Steps pP.tables eE below (s₁.setTop (mkF mM 100 #[.val (.int p1), .val (.int p2), .val (.int p3), .val (.int p4), .val (.int (15 : Int32)), .val (.int ev), .val (.int tv), .val (.int (1 : Int32)), .val (.int (1 : Int32)), .val (.int (1 : Int32)), .val (.int (1 : Int32)), .unset, .unset, .unset, .unset, .unset, .unset, .unset, .unset, .unset, .unset, .unset, .unset, .unset] [(.int (1 : Int32)), (.int (1 : Int32))])) tT
      refine XS.iadd X0.here hx rfl (Jvm.hb hby at_100) rfl ?_
      refine XS.iload X0.here hx rfl (Jvm.hb hby at_101) rfl ?_
      refine XS.ifNo X0.here hx rfl (Jvm.hb hby at_103) rfl ((if0 _ _).trans (feq ((by decide) : ¬ ((1 : Int32) = (0 : Int32)))).1) ?_
      refine XS.iconst X0.here hx rfl (Jvm.hb hby at_106) ?_
      refine XS.goto X0.here hx rfl (pc0 := 107) (pc' := 111) rfl (Jvm.hb hby at_107) (by decide) (by decide) ?_
      refine XS.iadd X0.here hx rfl (Jvm.hb hby at_111) rfl ?_
      show Steps pP.tables eE below (s₁.setTop (mkF mM 112 #[.val (.int p1), .val (.int p2), .val (.int p3), .val (.int p4), .val (.int (15 : Int32)), .val (.int ev), .val (.int tv), .val (.int (1 : Int32)), .val (.int (1 : Int32)), .val (.int (1 : Int32)), .val (.int (1 : Int32)), .unset, .unset, .unset, .unset, .unset, .unset, .unset, .unset, .unset, .unset, .unset, .unset, .unset] [(.int (3 : Int32))])) tT
      refine XS.iload X0.here hx rfl (Jvm.hb hby at_112) rfl ?_
      refine XS.ifNo X0.here hx rfl (Jvm.hb hby at_114) rfl ((if0 _ _).trans (feq ((by decide) : ¬ ((1 : Int32) = (0 : Int32)))).1) ?_
      refine XS.iconst X0.here hx rfl (Jvm.hb hby at_117) ?_
      refine XS.goto X0.here hx rfl (pc0 := 118) (pc' := 122) rfl (Jvm.hb hby at_118) (by decide) (by decide) ?_
      refine XS.iadd X0.here hx rfl (Jvm.hb hby at_122) rfl ?_
      refine XS.istore X0.here hx rfl (Jvm.hb hby at_123) rfl (l' := #[.val (.int p1), .val (.int p2), .val (.int p3), .val (.int p4), .val (.int (15 : Int32)), .val (.int ev), .val (.int tv), .val (.int (1 : Int32)), .val (.int (1 : Int32)), .val (.int (1 : Int32)), .val (.int (1 : Int32)), .val (.int (4 : Int32)), .unset, .unset, .unset, .unset, .unset, .unset, .unset, .unset, .unset, .unset, .unset, .unset]) rfl ?_
      show Steps pP.tables eE below (s₁.setTop (mkF mM 125 #[.val (.int p1), .val (.int p2), .val (.int p3), .val (.int p4), .val (.int (15 : Int32)), .val (.int ev), .val (.int tv), .val (.int (1 : Int32)), .val (.int (1 : Int32)), .val (.int (1 : Int32)), .val (.int (1 : Int32)), .val (.int (4 : Int32)), .unset, .unset, .unset, .unset, .unset, .unset, .unset, .unset, .unset, .unset, .unset, .unset] [])) tT
      refine XS.iload X0.here hx rfl (Jvm.hb hby at_125) rfl ?_
      exact kK
    obtain ⟨T132_, h132_, k132_, X132_, e132_, E132_, A132_, st132_⟩ := newP X0 hx hZ (hw _ (List.mem_of_getElem? (i := 1) rfl)) e0 (g := (mkF mM 127 #[.val (.int p1), .val (.int p2), .val (.int p3), .val (.int p4), .val (.int (15 : Int32)), .val (.int ev), .val (.int tv), .val (.int (1 : Int32)), .val (.int (1 : Int32)), .val (.int (1 : Int32)), .val (.int (1 : Int32)), .val (.int (4 : Int32)), .unset, .unset, .unset, .unset, .unset, .unset, .unset, .unset, .unset, .unset, .unset, .unset] [(.int (4 : Int32))])) rfl (Jvm.hb hby at_127) rfl (by decide) (cap := 4) (by decide) (by decide) (by decide) (by decide)
    obtain ⟨b132_, g132_⟩ : ∃ z, z = h0.size := ⟨_, rfl⟩
    rw [← g132_] at A132_ st132_
    have sz_b132_ : h0.size ≤ b132_ := Nat.le_trans K0.1 (Nat.le_of_eq g132_.symm)
    have ge_b132_ : n0 ≤ b132_ := Nat.le_trans Z0 sz_b132_
    have K132_ := K0.ext E132_
    have V132_ : own_T Z h132_ b132_ .int (4 : Int32) (fun _ => (0 : Int32)) := own_T.new A132_ (by decide) rfl
    refine own_fin st132_ ?_
    show own_Fin pP eE below _ (T132_.setTop (mkF mM 129 #[.val (.int p1), .val (.int p2), .val (.int p3), .val (.int p4), .val (.int (15 : Int32)), .val (.int ev), .val (.int tv), .val (.int (1 : Int32)), .val (.int (1 : Int32)), .val (.int (1 : Int32)), .val (.int (1 : Int32)), .val (.int (4 : Int32)), .unset, .unset, .unset, .unset, .unset, .unset, .unset, .unset, .unset, .unset, .unset, .unset] [(.ref b132_)]))
    refine own_fin (b := T132_.setTop (mkF mM 144 #[.val (.int p1), .val (.int p2), .val (.int p3), .val (.int p4), .val (.int (15 : Int32)), .val (.int ev), .val (.int tv), .val (.int (1 : Int32)), .val (.int (1 : Int32)), .val (.int (1 : Int32)), .val (.int (1 : Int32)), .val (.int (4 : Int32)), .val (.ref b132_), .val (.int (0 : Int32)), .unset, .unset, .unset, .unset, .unset, .unset, .unset, .unset, .unset, .unset] [(.int (0 : Int32)), (.int (0 : Int32)), (.ref b132_)])) (fun tT kK => ?_) ?_
    · show Steps pP.tables eE below (T132_.setTop (mkF mM 129 #[.val (.int p1), .val (.int p2), .val (.int p3), .val (.int p4), .val (.int (15 : Int32)), .val (.int ev), .val (.int tv), .val (.int (1 : Int32)), .val (.int (1 : Int32)), .val (.int (1 : Int32)), .val (.int (1 : Int32)), .val (.int (4 : Int32)), .unset, .unset, .unset, .unset, .unset, .unset, .unset, .unset, .unset, .unset, .unset, .unset] [(.ref b132_)])) tT
      refine XS.astore X132_.here hx rfl (Jvm.hb hby at_129) rfl rfl (l' := #[.val (.int p1), .val (.int p2), .val (.int p3), .val (.int p4), .val (.int (15 : Int32)), .val (.int ev), .val (.int tv), .val (.int (1 : Int32)), .val (.int (1 : Int32)), .val (.int (1 : Int32)), .val (.int (1 : Int32)), .val (.int (4 : Int32)), .val (.ref b132_), .unset, .unset, .unset, .unset, .unset, .unset, .unset, .unset, .unset, .unset, .unset]) rfl ?_
      refine XS.iconst X132_.here hx rfl (Jvm.hb hby at_131) ?_
      refine XS.istore X132_.here hx rfl (Jvm.hb hby at_132) rfl (l' := #[.val (.int p1), .val (.int p2), .val (.int p3), .val (.int p4), .val (.int (15 : Int32)), .val (.int ev), .val (.int tv), .val (.int (1 : Int32)), .val (.int (1 : Int32)), .val (.int (1 : Int32)), .val (.int (1 : Int32)), .val (.int (4 : Int32)), .val (.ref b132_), .val (.int (0 : Int32)), .unset, .unset, .unset, .unset, .unset, .unset, .unset, .unset, .unset, .unset]) rfl ?_
      refine XS.iload X132_.here hx rfl (Jvm.hb hby at_134) rfl ?_
      refine XS.ifNo X132_.here hx rfl (Jvm.hb hby at_136) rfl ((if0 _ _).trans (feq ((by decide) : ¬ ((1 : Int32) = (0 : Int32)))).1) ?_
      show Steps pP.tables eE below (T132_.setTop (mkF mM 139 #[.val (.int p1), .val (.int p2), .val (.int p3), .val (.int p4), .val (.int (15 : Int32)), .val (.int ev), .val (.int tv), .val (.int (1 : Int32)), .val (.int (1 : Int32)), .val (.int (1 : Int32)), .val (.int (1 : Int32)), .val (.int (4 : Int32)), .val (.ref b132_), .val (.int (0 : Int32)), .unset, .unset, .unset, .unset, .unset, .unset, .unset, .unset, .unset, .unset] [])) tT
      refine XS.aload X132_.here hx rfl (Jvm.hb hby at_139) rfl rfl ?_
      refine XS.iload X132_.here hx rfl (Jvm.hb hby at_141) rfl ?_
      refine XS.iconst X132_.here hx rfl (Jvm.hb hby at_143) ?_
      exact kK
    obtain ⟨cl133_, Ar133_, Sz133_, Nn133_, Hh133_⟩ := id V132_
    have hin133_ : ¬ ((0 : Int32) < 0 ∨ cl133_.slots.size ≤ ((0 : Int32)).toNatClampNeg) := inb_of Sz133_ ⟨by decide, by decide⟩
    obtain ⟨T133_, h133_, X133_, e133_, W133_, st133_⟩ := stI X132_ hx hZ e132_ Ar133_ (j := (0 : Int32)) hin133_ (g := (mkF mM 144 #[.val (.int p1), .val (.int p2), .val (.int p3), .val (.int p4), .val (.int (15 : Int32)), .val (.int ev), .val (.int tv), .val (.int (1 : Int32)), .val (.int (1 : Int32)), .val (.int (1 : Int32)), .val (.int (1 : Int32)), .val (.int (4 : Int32)), .val (.ref b132_), .val (.int (0 : Int32)), .unset, .unset, .unset, .unset, .unset, .unset, .unset, .unset, .unset, .unset] [(.int (0 : Int32)), (.int (0 : Int32)), (.ref b132_)])) rfl rfl (Jvm.hb hby at_144)
    have U133_ : own_T Z h133_ b132_ .int (4 : Int32) (own_up (fun _ => (0 : Int32)) (0 : Int32) (0 : Int32)) := own_T.set ⟨cl133_, Ar133_, Sz133_, Nn133_, Hh133_⟩ W133_ ⟨by decide, by decide⟩
    have K133_ := K132_.wr W133_ (Or.inr sz_b132_)
    have N133_ := Fr.snoc X133_ N0 ge_b132_
    refine own_fin st133_ ?_
    show own_Fin pP eE below _ (T133_.setTop (mkF mM 145 #[.val (.int p1), .val (.int p2), .val (.int p3), .val (.int p4), .val (.int (15 : Int32)), .val (.int ev), .val (.int tv), .val (.int (1 : Int32)), .val (.int (1 : Int32)), .val (.int (1 : Int32)), .val (.int (1 : Int32)), .val (.int (4 : Int32)), .val (.ref b132_), .val (.int (0 : Int32)), .unset, .unset, .unset, .unset, .unset, .unset, .unset, .unset, .unset, .unset] []))
    refine own_fin (b := T133_.setTop (mkF mM 158 #[.val (.int p1), .val (.int p2), .val (.int p3), .val (.int p4), .val (.int (15 : Int32)), .val (.int ev), .val (.int tv), .val (.int (1 : Int32)), .val (.int (1 : Int32)), .val (.int (1 : Int32)), .val (.int (1 : Int32)), .val (.int (4 : Int32)), .val (.ref b132_), .val (.int (1 : Int32)), .unset, .unset, .unset, .unset, .unset, .unset, .unset, .unset, .unset, .unset] [(.int (1 : Int32)), (.int (1 : Int32)), (.ref b132_)])) (fun tT kK => ?_) ?_
    · show Steps pP.tables eE below (T133_.setTop (mkF mM 145 #[.val (.int p1), .val (.int p2), .val (.int p3), .val (.int p4), .val (.int (15 : Int32)), .val (.int ev), .val (.int tv), .val (.int (1 : Int32)), .val (.int (1 : Int32)), .val (.int (1 : Int32)), .val (.int (1 : Int32)), .val (.int (4 : Int32)), .val (.ref b132_), .val (.int (0 : Int32)), .unset, .unset, .unset, .unset, .unset, .unset, .unset, .unset, .unset, .unset] [])) tT
      refine XS.iinc X133_.here hx rfl (Jvm.hb hby at_145) rfl (l' := #[.val (.int p1), .val (.int p2), .val (.int p3), .val (.int p4), .val (.int (15 : Int32)), .val (.int ev), .val (.int tv), .val (.int (1 : Int32)), .val (.int (1 : Int32)), .val (.int (1 : Int32)), .val (.int (1 : Int32)), .val (.int (4 : Int32)), .val (.ref b132_), .val (.int (1 : Int32)), .unset, .unset, .unset, .unset, .unset, .unset, .unset, .unset, .unset, .unset]) rfl ?_
      refine XS.iload X133_.here hx rfl (Jvm.hb hby at_148) rfl ?_
      refine XS.ifNo X133_.here hx rfl (Jvm.hb hby at_150) rfl ((if0 _ _).trans (feq ((by decide) : ¬ ((1 : Int32) = (0 : Int32)))).1) ?_
      show Steps pP.tables eE below (T133_.setTop (mkF mM 153 #[.val (.int p1), .val (.int p2), .val (.int p3), .val (.int p4), .val (.int (15 : Int32)), .val (.int ev), .val (.int tv), .val (.int (1 : Int32)), .val (.int (1 : Int32)), .val (.int (1 : Int32)), .val (.int (1 : Int32)), .val (.int (4 : Int32)), .val (.ref b132_), .val (.int (1 : Int32)), .unset, .unset, .unset, .unset, .unset, .unset, .unset, .unset, .unset, .unset] [])) tT
      refine XS.aload X133_.here hx rfl (Jvm.hb hby at_153) rfl rfl ?_
      refine XS.iload X133_.here hx rfl (Jvm.hb hby at_155) rfl ?_
      refine XS.iconst X133_.here hx rfl (Jvm.hb hby at_157) ?_
      exact kK
    obtain ⟨cl134_, Ar134_, Sz134_, Nn134_, Hh134_⟩ := id U133_
    have hin134_ : ¬ ((1 : Int32) < 0 ∨ cl134_.slots.size ≤ ((1 : Int32)).toNatClampNeg) := inb_of Sz134_ ⟨by decide, by decide⟩
    obtain ⟨T134_, h134_, X134_, e134_, W134_, st134_⟩ := stI X133_ hx hZ e133_ Ar134_ (j := (1 : Int32)) hin134_ (g := (mkF mM 158 #[.val (.int p1), .val (.int p2), .val (.int p3), .val (.int p4), .val (.int (15 : Int32)), .val (.int ev), .val (.int tv), .val (.int (1 : Int32)), .val (.int (1 : Int32)), .val (.int (1 : Int32)), .val (.int (1 : Int32)), .val (.int (4 : Int32)), .val (.ref b132_), .val (.int (1 : Int32)), .unset, .unset, .unset, .unset, .unset, .unset, .unset, .unset, .unset, .unset] [(.int (1 : Int32)), (.int (1 : Int32)), (.ref b132_)])) rfl rfl (Jvm.hb hby at_158)
    have U134_ : own_T Z h134_ b132_ .int (4 : Int32) (own_up (own_up (fun _ => (0 : Int32)) (0 : Int32) (0 : Int32)) (1 : Int32) (1 : Int32)) := own_T.set ⟨cl134_, Ar134_, Sz134_, Nn134_, Hh134_⟩ W134_ ⟨by decide, by decide⟩
    have K134_ := K133_.wr W134_ (Or.inr sz_b132_)
    have N134_ := Fr.snoc X134_ N133_ ge_b132_
    refine own_fin st134_ ?_
    show own_Fin pP eE below _ (T134_.setTop (mkF mM 159 #[.val (.int p1), .val (.int p2), .val (.int p3), .val (.int p4), .val (.int (15 : Int32)), .val (.int ev), .val (.int tv), .val (.int (1 : Int32)), .val (.int (1 : Int32)), .val (.int (1 : Int32)), .val (.int (1 : Int32)), .val (.int (4 : Int32)), .val (.ref b132_), .val (.int (1 : Int32)), .unset, .unset, .unset, .unset, .unset, .unset, .unset, .unset, .unset, .unset] []))
    refine own_fin (b := T134_.setTop (mkF mM 172 #[.val (.int p1), .val (.int p2), .val (.int p3), .val (.int p4), .val (.int (15 : Int32)), .val (.int ev), .val (.int tv), .val (.int (1 : Int32)), .val (.int (1 : Int32)), .val (.int (1 : Int32)), .val (.int (1 : Int32)), .val (.int (4 : Int32)), .val (.ref b132_), .val (.int (2 : Int32)), .unset, .unset, .unset, .unset, .unset, .unset, .unset, .unset, .unset, .unset] [(.int (2 : Int32)), (.int (2 : Int32)), (.ref b132_)])) (fun tT kK => ?_) ?_
    · show Steps pP.tables eE below (T134_.setTop (mkF mM 159 #[.val (.int p1), .val (.int p2), .val (.int p3), .val (.int p4), .val (.int (15 : Int32)), .val (.int ev), .val (.int tv), .val (.int (1 : Int32)), .val (.int (1 : Int32)), .val (.int (1 : Int32)), .val (.int (1 : Int32)), .val (.int (4 : Int32)), .val (.ref b132_), .val (.int (1 : Int32)), .unset, .unset, .unset, .unset, .unset, .unset, .unset, .unset, .unset, .unset] [])) tT
      refine XS.iinc X134_.here hx rfl (Jvm.hb hby at_159) rfl (l' := #[.val (.int p1), .val (.int p2), .val (.int p3), .val (.int p4), .val (.int (15 : Int32)), .val (.int ev), .val (.int tv), .val (.int (1 : Int32)), .val (.int (1 : Int32)), .val (.int (1 : Int32)), .val (.int (1 : Int32)), .val (.int (4 : Int32)), .val (.ref b132_), .val (.int (2 : Int32)), .unset, .unset, .unset, .unset, .unset, .unset, .unset, .unset, .unset, .unset]) rfl ?_
      refine XS.iload X134_.here hx rfl (Jvm.hb hby at_162) rfl ?_
      refine XS.ifNo X134_.here hx rfl (Jvm.hb hby at_164) rfl ((if0 _ _).trans (feq ((by decide) : ¬ ((1 : Int32) = (0 : Int32)))).1) ?_
      show Steps pP.tables eE below (T134_.setTop (mkF mM 167 #[.val (.int p1), .val (.int p2), .val (.int p3), .val (.int p4), .val (.int (15 : Int32)), .val (.int ev), .val (.int tv), .val (.int (1 : Int32)), .val (.int (1 : Int32)), .val (.int (1 : Int32)), .val (.int (1 : Int32)), .val (.int (4 : Int32)), .val (.ref b132_), .val (.int (2 : Int32)), .unset, .unset, .unset, .unset, .unset, .unset, .unset, .unset, .unset, .unset] [])) tT
      refine XS.aload X134_.here hx rfl (Jvm.hb hby at_167) rfl rfl ?_
      refine XS.iload X134_.here hx rfl (Jvm.hb hby at_169) rfl ?_
      refine XS.iconst X134_.here hx rfl (Jvm.hb hby at_171) ?_
      exact kK
    obtain ⟨cl135_, Ar135_, Sz135_, Nn135_, Hh135_⟩ := id U134_
    have hin135_ : ¬ ((2 : Int32) < 0 ∨ cl135_.slots.size ≤ ((2 : Int32)).toNatClampNeg) := inb_of Sz135_ ⟨by decide, by decide⟩
    obtain ⟨T135_, h135_, X135_, e135_, W135_, st135_⟩ := stI X134_ hx hZ e134_ Ar135_ (j := (2 : Int32)) hin135_ (g := (mkF mM 172 #[.val (.int p1), .val (.int p2), .val (.int p3), .val (.int p4), .val (.int (15 : Int32)), .val (.int ev), .val (.int tv), .val (.int (1 : Int32)), .val (.int (1 : Int32)), .val (.int (1 : Int32)), .val (.int (1 : Int32)), .val (.int (4 : Int32)), .val (.ref b132_), .val (.int (2 : Int32)), .unset, .unset, .unset, .unset, .unset, .unset, .unset, .unset, .unset, .unset] [(.int (2 : Int32)), (.int (2 : Int32)), (.ref b132_)])) rfl rfl (Jvm.hb hby at_172)
    have U135_ : own_T Z h135_ b132_ .int (4 : Int32) (own_up (own_up (own_up (fun _ => (0 : Int32)) (0 : Int32) (0 : Int32)) (1 : Int32) (1 : Int32)) (2 : Int32) (2 : Int32)) := own_T.set ⟨cl135_, Ar135_, Sz135_, Nn135_, Hh135_⟩ W135_ ⟨by decide, by decide⟩
    have K135_ := K134_.wr W135_ (Or.inr sz_b132_)
    have N135_ := Fr.snoc X135_ N134_ ge_b132_
    refine own_fin st135_ ?_
    show own_Fin pP eE below _ (T135_.setTop (mkF mM 173 #[.val (.int p1), .val (.int p2), .val (.int p3), .val (.int p4), .val (.int (15 : Int32)), .val (.int ev), .val (.int tv), .val (.int (1 : Int32)), .val (.int (1 : Int32)), .val (.int (1 : Int32)), .val (.int (1 : Int32)), .val (.int (4 : Int32)), .val (.ref b132_), .val (.int (2 : Int32)), .unset, .unset, .unset, .unset, .unset, .unset, .unset, .unset, .unset, .unset] []))
    refine own_fin (b := T135_.setTop (mkF mM 186 #[.val (.int p1), .val (.int p2), .val (.int p3), .val (.int p4), .val (.int (15 : Int32)), .val (.int ev), .val (.int tv), .val (.int (1 : Int32)), .val (.int (1 : Int32)), .val (.int (1 : Int32)), .val (.int (1 : Int32)), .val (.int (4 : Int32)), .val (.ref b132_), .val (.int (3 : Int32)), .unset, .unset, .unset, .unset, .unset, .unset, .unset, .unset, .unset, .unset] [(.int (3 : Int32)), (.int (3 : Int32)), (.ref b132_)])) (fun tT kK => ?_) ?_
    · show Steps pP.tables eE below (T135_.setTop (mkF mM 173 #[.val (.int p1), .val (.int p2), .val (.int p3), .val (.int p4), .val (.int (15 : Int32)), .val (.int ev), .val (.int tv), .val (.int (1 : Int32)), .val (.int (1 : Int32)), .val (.int (1 : Int32)), .val (.int (1 : Int32)), .val (.int (4 : Int32)), .val (.ref b132_), .val (.int (2 : Int32)), .unset, .unset, .unset, .unset, .unset, .unset, .unset, .unset, .unset, .unset] [])) tT
      refine XS.iinc X135_.here hx rfl (Jvm.hb hby at_173) rfl (l' := #[.val (.int p1), .val (.int p2), .val (.int p3), .val (.int p4), .val (.int (15 : Int32)), .val (.int ev), .val (.int tv), .val (.int (1 : Int32)), .val (.int (1 : Int32)), .val (.int (1 : Int32)), .val (.int (1 : Int32)), .val (.int (4 : Int32)), .val (.ref b132_), .val (.int (3 : Int32)), .unset, .unset, .unset, .unset, .unset, .unset, .unset, .unset, .unset, .unset]) rfl ?_
      refine XS.iload X135_.here hx rfl (Jvm.hb hby at_176) rfl ?_
      refine XS.ifNo X135_.here hx rfl (Jvm.hb hby at_178) rfl ((if0 _ _).trans (feq ((by decide) : ¬ ((1 : Int32) = (0 : Int32)))).1) ?_
      show Steps pP.tables eE below (T135_.setTop (mkF mM 181 #[.val (.int p1), .val (.int p2), .val (.int p3), .val (.int p4), .val (.int (15 : Int32)), .val (.int ev), .val (.int tv), .val (.int (1 : Int32)), .val (.int (1 : Int32)), .val (.int (1 : Int32)), .val (.int (1 : Int32)), .val (.int (4 : Int32)), .val (.ref b132_), .val (.int (3 : Int32)), .unset, .unset, .unset, .unset, .unset, .unset, .unset, .unset, .unset, .unset] [])) tT
      refine XS.aload X135_.here hx rfl (Jvm.hb hby at_181) rfl rfl ?_
      refine XS.iload X135_.here hx rfl (Jvm.hb hby at_183) rfl ?_
      refine XS.iconst X135_.here hx rfl (Jvm.hb hby at_185) ?_
      exact kK
    obtain ⟨cl136_, Ar136_, Sz136_, Nn136_, Hh136_⟩ := id U135_
    have hin136_ : ¬ ((3 : Int32) < 0 ∨ cl136_.slots.size ≤ ((3 : Int32)).toNatClampNeg) := inb_of Sz136_ ⟨by decide, by decide⟩
    obtain ⟨T136_, h136_, X136_, e136_, W136_, st136_⟩ := stI X135_ hx hZ e135_ Ar136_ (j := (3 : Int32)) hin136_ (g := (mkF mM 186 #[.val (.int p1), .val (.int p2), .val (.int p3), .val (.int p4), .val (.int (15 : Int32)), .val (.int ev), .val (.int tv), .val (.int (1 : Int32)), .val (.int (1 : Int32)), .val (.int (1 : Int32)), .val (.int (1 : Int32)), .val (.int (4 : Int32)), .val (.ref b132_), .val (.int (3 : Int32)), .unset, .unset, .unset, .unset, .unset, .unset, .unset, .unset, .unset, .unset] [(.int (3 : Int32)), (.int (3 : Int32)), (.ref b132_)])) rfl rfl (Jvm.hb hby at_186)
    have U136_ : own_T Z h136_ b132_ .int (4 : Int32) (own_up (own_up (own_up (own_up (fun _ => (0 : Int32)) (0 : Int32) (0 : Int32)) (1 : Int32) (1 : Int32)) (2 : Int32) (2 : Int32)) (3 : Int32) (3 : Int32)) := own_T.set ⟨cl136_, Ar136_, Sz136_, Nn136_, Hh136_⟩ W136_ ⟨by decide, by decide⟩
    have K136_ := K135_.wr W136_ (Or.inr sz_b132_)
    have N136_ := Fr.snoc X136_ N135_ ge_b132_
    refine own_fin st136_ ?_
    show own_Fin pP eE below _ (T136_.setTop (mkF mM 187 #[.val (.int p1), .val (.int p2), .val (.int p3), .val (.int p4), .val (.int (15 : Int32)), .val (.int ev), .val (.int tv), .val (.int (1 : Int32)), .val (.int (1 : Int32)), .val (.int (1 : Int32)), .val (.int (1 : Int32)), .val (.int (4 : Int32)), .val (.ref b132_), .val (.int (3 : Int32)), .unset, .unset, .unset, .unset, .unset, .unset, .unset, .unset, .unset, .unset] []))
    refine own_fin (b := T136_.setTop (mkF mM 190 #[.val (.int p1), .val (.int p2), .val (.int p3), .val (.int p4), .val (.int (15 : Int32)), .val (.int ev), .val (.int tv), .val (.int (1 : Int32)), .val (.int (1 : Int32)), .val (.int (1 : Int32)), .val (.int (1 : Int32)), .val (.int (4 : Int32)), .val (.ref b132_), .val (.int (4 : Int32)), .unset, .unset, .unset, .unset, .unset, .unset, .unset, .unset, .unset, .unset] [])) (fun tT kK => ?_) ?_
    · show Steps pP.tables eE below (T136_.setTop (mkF mM 187 #[.val (.int p1), .val (.int p2), .val (.int p3), .val (.int p4), .val (.int (15 : Int32)), .val (.int ev), .val (.int tv), .val (.int (1 : Int32)), .val (.int (1 : Int32)), .val (.int (1 : Int32)), .val (.int (1 : Int32)), .val (.int (4 : Int32)), .val (.ref b132_), .val (.int (3 : Int32)), .unset, .unset, .unset, .unset, .unset, .unset, .unset, .unset, .unset, .unset] [])) tT
      refine XS.iinc X136_.here hx rfl (Jvm.hb hby at_187) rfl (l' := #[.val (.int p1), .val (.int p2), .val (.int p3), .val (.int p4), .val (.int (15 : Int32)), .val (.int ev), .val (.int tv), .val (.int (1 : Int32)), .val (.int (1 : Int32)), .val (.int (1 : Int32)), .val (.int (1 : Int32)), .val (.int (4 : Int32)), .val (.ref b132_), .val (.int (4 : Int32)), .unset, .unset, .unset, .unset, .unset, .unset, .unset, .unset, .unset, .unset]) rfl ?_
      exact kK
    show own_Fin pP eE below _ (T136_.setTop (mkF mM 190 #[.val (.int p1), .val (.int p2), .val (.int p3), .val (.int p4), .val (.int (15 : Int32)), .val (.int ev), .val (.int tv), .val (.int (1 : Int32)), .val (.int (1 : Int32)), .val (.int (1 : Int32)), .val (.int (1 : Int32)), .val (.int (4 : Int32)), .val (.ref b132_), .val (.int (4 : Int32)), .unset, .unset, .unset, .unset, .unset, .unset, .unset, .unset, .unset, .unset] []))
    exact jp1_ (1 : Int32) (1 : Int32) (1 : Int32) (1 : Int32) (4 : Int32) b132_ (own_up (own_up (own_up (own_up (fun _ => (0 : Int32)) (0 : Int32) (0 : Int32)) (1 : Int32) (1 : Int32)) (2 : Int32) (2 : Int32)) (3 : Int32) (3 : Int32)) _ _ _ _ own_St15 ge_b132_ X136_ e136_ K136_ U136_ N136_
set_option maxRecDepth 65536 in
set_option maxHeartbeats 40000000 in
theorem comes_1 {Post : Tables → Env → Array Value → State → Outcome → State → Prop} (hpost : ∀ tb e args s v u, (limb_1_1.after args s (.returned v) u = true ∧ limb_1_2.after args s (.returned v) u = true ∧ True) → FrameEnd s (.returned v) u (Jvm.fieldLocs frame_1_writes args s ++ Jvm.arrayLocs frame_1_arrays args s ++ Jvm.staticLocs frame_1_statics s) 32 128 → Post tb e args s (.returned v) u) :
    ArmFor flags0 classFile x code maxLocals ret World_1 tables_1 room_1 Calls_1 rest_1 Pre_1 Post := by
  intro l hfl _ _ p e ha hc hk s m args below hf hA hF happ hP
  obtain ⟨hcalls, hrest, hpre⟩ := hP
  obtain ⟨-, -, -, hnamed, -, -, -, hat⟩ := (Spec.applies_iff hf).mp happ
  obtain ⟨hg, hn⟩ := and_e (Cond.before_iff.mp (show (Jvm.Cond.and given_1 narrow_1).before args s = true from hpre))
  obtain ⟨gg1, gg2⟩ := and_e hg
  obtain ⟨gg3, gg4⟩ := and_e gg2
  obtain ⟨gg5, gg6⟩ := and_e gg4
  obtain ⟨gg7, gg8⟩ := and_e gg6
  obtain ⟨w0, w1, w2, w3, rfl⟩ : ∃ w0 w1 w2 w3 : Value, args = #[w0, w1, w2, w3] := by
    have hs : args.size = 4 := by simpa [Cond.value, given_1] using gg1
    obtain ⟨L⟩ := args
    match L, hs with
    | [w0, w1, w2, w3], _ => exact ⟨w0, w1, w2, w3, rfl⟩
  have hw := fun d (hd : d ∈ tables_1) => atoms_spec (ws := Jvm.Cond.code x code maxLocals ret :: tables_1) hat d (List.mem_cons_of_mem _ hd)
  have hfit : Fit s := fun {y c} hc i hi => by
    obtain ⟨ha, rfl⟩ := Array.getElem?_eq_some_iff.mp hc
    have q := List.all_eq_true.mp ((Array.all_eq_true_iff_forall_mem.mp hF) _ (Array.getElem_mem ha)) i (List.mem_range.mpr hi)
    simpa [Array.getElem?_eq_getElem hi] using q
  obtain ⟨i0, ei0⟩ := is_v gg3
  obtain rfl : w0 = (.int i0) := Option.some.inj ei0
  obtain ⟨i1, ei1⟩ := is_v gg5
  obtain rfl : w1 = (.int i1) := Option.some.inj ei1
  obtain ⟨i2, ei2⟩ := is_v gg7
  obtain rfl : w2 = (.int i2) := Option.some.inj ei2
  obtain ⟨i3, ei3⟩ := is_v gg8
  obtain rfl : w3 = (.int i3) := Option.some.inj ei3
  obtain ⟨n, o, h1, h2, h3, _, L, rfl, ⟨rfl, N⟩, hq⟩ := rm0 l s _ hw tables_1 i0 i1 i2 i3 s.heap s.heap.size (Nat.le_refl _)  p e ha hc hk s m _ below hf ((Spec.applies_iff_loose hf).mp happ).1 ⟨rfl, State.Warmed39.refl s, rfl⟩ trivial
  refine ⟨n, _, h1, h2, h3, hpost _ _ _ _ _ _ ⟨Cond.after_iff.mpr rfl, Cond.after_iff.mpr (eq_i res_at (Term.int_eval (1)) rfl), trivial⟩ ⟨hq.1, hq.2.1, (hq.2.2.sift fun y hy => Or.inr (N y hy)).mono (by decide) (by decide)⟩⟩
theorem main_1_1 : Claimed_1_1 := comes_1 fun _ _ _ _ _ _ h hF => ⟨h.1, hF⟩
theorem main_1_2 : Claimed_1_2 := comes_1 fun _ _ _ _ _ _ h hF => ⟨h.2.1, hF⟩
end Jvm.Pilot.@@N@@
namespace Jvm.Pilot.@@N@@
open Jvm Jvm.ClassFile Sem Op Lib Jvm.Free Jvm.Stand Jvm.Pilot.@@N@@.Jvm.D
/-! MADE BY PROGRAM (witnessworld.py) out of the Statement's table words and the real class files: 14 classes; the members and pool entries that the words name. The judged class is class 1, her method 1. -/
namespace start1
open Jvm.ClassFile
def u (s : String) : CpInfo := .utf8 (stringToUtf16 s)
/-- a pool by its gaps: so many unusable entries, then the entry; so many at the end -/
def gap : Nat → List CpInfo → List CpInfo
  | 0, r => r
  | n + 1, r => .unusable :: gap n r
def poolList (es : List (Nat × CpInfo)) (last : Nat) : List CpInfo := es.foldr (fun e r => gap e.1 (e.2 :: r)) (gap last [])
def pool (es : List (Nat × CpInfo)) (last : Nat) : Array CpInfo := ⟨poolList es last⟩
def fileOf (pool : Array CpInfo) (this : Nat) (attrs : Array Attribute := #[]) (ms : Array MethodInfo := #[]) (fl : Nat := 33) (sup : Nat := 0) (ifs : Array Nat := #[]) (fds : Array FieldInfo := #[]) : ClassFile where
  minorVersion := 0
  majorVersion := 65
  constantPool := pool
  accessFlags := fl
  thisClass := this
  superClass := sup
  interfaces := ifs
  fields := fds
  methods := ms
  attributes := attrs
def plain (name : String) (sup : Option ClassId) : Class where
  name := name
  kind := .ordinary
  loader := none
  accessFlags := 33
  super := sup
  interfaces := #[]
  cf := none
  fields := #[]
  methods := #[]
  instanceTypes := #[]
  staticTypes := #[]
  resolved := #[]
  callSites := []
  init := .initialized
  statics := none
  mirror := none

def pool0 : Array CpInfo := pool [(5, u "<init>"), (0, u "()V"), (1, .class_ 10), (1, u "java/lang/Object")] 113

def k0c0 : Code := { maxStack := 0, maxLocals := 1, code := object_method_1_code, exceptionTable := #[], attributes := #[] }
def k0m0 : Method := { name := "<init>", desc := "()V", sig := { parameters := [], returnType := none }, accessFlags := 1, code := some k0c0 }
/-- java/lang/Object -/
def k0 : Class := { plain "java/lang/Object" none with
  accessFlags := 33
  interfaces := #[]
  cf := some (fileOf pool0 8 #[] #[{ accessFlags := 1, nameIndex := 5, descriptorIndex := 6, attributes := #[] }] 33 0 #[] #[])
  fields := #[]
  methods := #[k0m0]
  instanceTypes := #[]
  staticTypes := #[]
  resolved := Array.replicate 124 none
  statics := none }

def pool1 : Array CpInfo := pool [(2, .class_ 4), (1, u "java/lang/Object"), (0, u "<init>"), (0, u "()V"), (0, .integer 2147483647), (0, .class_ 9), (0, u "com/example/chains_to_rank/chainstorank/graph/DoubleArithmetic"), (0, .methodref 8 11), (0, .nameAndType 5 12), (0, u "(I)V"), (0, .methodref 8 14), (0, .nameAndType 15 16), (0, u "arrive"), (0, u "(II)Z"), (0, .methodref 8 18), (0, .nameAndType 19 20), (0, u "prepareStep"), (0, u "([I[I)V"), (0, .methodref 8 22), (0, .nameAndType 23 24), (0, u "start"), (0, u "([I)V"), (0, .methodref 8 26), (0, .nameAndType 27 28), (0, u "mass"), (0, u "(I)D"), (0, .methodref 8 30), (0, .nameAndType 31 32), (0, u "distribution"), (0, u "([I)Lcom/example/chains_to_rank/chainstorank/graph/Distribution;"), (0, .methodref 34 35), (0, .class_ 36), (0, .nameAndType 37 28), (0, u "com/example/chains_to_rank/chainstorank/graph/Distribution"), (0, u "probability"), (0, .methodref 34 39), (0, .nameAndType 40 28), (0, u "errorBound"), (0, .double 4377498837804122112), (1, .double 4503599627370496), (1, .class_ 46), (0, u "com/example/chains_to_rank/chainstorank/graph/DoubleArithmeticStartPinLaw"), (2, u "law"), (0, u "(IIII)Z")] 5

def k1m0 : Method := { name := "<init>", desc := "()V", sig := { parameters := [], returnType := none }, accessFlags := 1, code := none }
def k1c1 : Code := { maxStack := 6, maxLocals := 24, code := code, exceptionTable := #[], attributes := #[] }
def k1m1 : Method := { name := "law", desc := "(IIII)Z", sig := { parameters := [.int, .int, .int, .int], returnType := some .boolean }, accessFlags := 9, code := some k1c1 }
/-- com/example/chains_to_rank/chainstorank/graph/DoubleArithmeticStartPinLaw -/
def k1 : Class := { plain "com/example/chains_to_rank/chainstorank/graph/DoubleArithmeticStartPinLaw" (some 0) with
  accessFlags := 49
  interfaces := #[]
  cf := some (fileOf pool1 45 #[] #[{ accessFlags := 1, nameIndex := 5, descriptorIndex := 6, attributes := #[] }, { accessFlags := 9, nameIndex := 49, descriptorIndex := 50, attributes := #[] }] 49 2 #[] #[])
  fields := #[]
  methods := #[k1m0, k1m1]
  instanceTypes := #[]
  staticTypes := #[]
  resolved := Array.replicate 56 none
  statics := none }

def pool2 : Array CpInfo := pool [(1, .class_ 2), (0, u "com/example/chains_to_rank/chainstorank/graph/WalkArithmetic"), (8, .class_ 12), (0, u "java/lang/Object"), (0, u "EVERY_NEIGHBOUR"), (0, u "I")] 19

/-- com/example/chains_to_rank/chainstorank/graph/WalkArithmetic -/
def k2 : Class := { plain "com/example/chains_to_rank/chainstorank/graph/WalkArithmetic" (some 0) with
  accessFlags := 1536
  interfaces := #[]
  cf := some (fileOf pool2 1 #[] #[] 1536 11 #[] #[{ accessFlags := 25, nameIndex := 13, descriptorIndex := 14, attributes := #[] }])
  fields := #[{ name := "EVERY_NEIGHBOUR", type := .int, accessFlags := 25, slot := 0, constantValue := 0 }]
  methods := #[]
  instanceTypes := #[]
  staticTypes := #[.int]
  resolved := Array.replicate 34 none
  statics := none }

def pool3 : Array CpInfo := pool [(1, .methodref 2 3), (0, .class_ 4), (0, .nameAndType 5 6), (0, u "java/lang/Object"), (0, u "<init>"), (0, u "()V"), (0, .fieldref 8 9), (0, .class_ 10), (0, .nameAndType 11 12), (0, u "com/example/chains_to_rank/chainstorank/graph/DoubleArithmetic"), (0, u "mass"), (0, u "[D"), (0, .fieldref 8 14), (0, .nameAndType 15 12), (0, u "share"), (0, .fieldref 8 17), (0, .nameAndType 18 12), (0, u "arriving"), (0, .fieldref 8 20), (0, .nameAndType 21 22), (0, u "roundings"), (0, u "J"), (0, .fieldref 8 24), (0, .nameAndType 25 26), (0, u "mostShares"), (0, u "I"), (4, .methodref 32 33), (0, .class_ 34), (0, .nameAndType 35 36), (0, u "java/lang/Math"), (0, u "max"), (0, u "(II)I"), (0, .methodref 8 38), (0, .nameAndType 39 40), (0, u "kept"), (0, u "(ID)D"), (0, .class_ 42), (0, u "com/example/chains_to_rank/chainstorank/graph/Distribution"), (0, .double 4377498837804122112), (3, .double 4503599627370496), (1, .methodref 41 50), (0, .nameAndType 5 51), (0, u "([I[DDD)V"), (0, .class_ 53), (0, u "com/example/chains_to_rank/chainstorank/graph/WalkArithmetic"), (0, u "(I)V"), (2, u "start"), (0, u "([I)V"), (3, u "prepareStep"), (0, u "([I[I)V"), (2, u "arrive"), (0, u "(II)Z"), (0, u "(I)D"), (0, u "distribution"), (0, u "([I)Lcom/example/chains_to_rank/chainstorank/graph/Distribution;")] 3

def k3c0 : Code := { maxStack := 2, maxLocals := 2, code := prog_28_method_1_code, exceptionTable := #[], attributes := #[] }
def k3m0 : Method := { name := "<init>", desc := "(I)V", sig := { parameters := [.int], returnType := none }, accessFlags := 0, code := some k3c0 }
def k3c1 : Code := { maxStack := 4, maxLocals := 8, code := prog_28_method_2_code, exceptionTable := #[], attributes := #[] }
def k3m1 : Method := { name := "start", desc := "([I)V", sig := { parameters := [(.array .int)], returnType := none }, accessFlags := 1, code := some k3c1 }
def k3c2 : Code := { maxStack := 8, maxLocals := 4, code := prog_28_method_3_code, exceptionTable := #[], attributes := #[] }
def k3m2 : Method := { name := "prepareStep", desc := "([I[I)V", sig := { parameters := [(.array .int), (.array .int)], returnType := none }, accessFlags := 1, code := some k3c2 }
def k3c3 : Code := { maxStack := 6, maxLocals := 3, code := prog_28_method_6_code, exceptionTable := #[], attributes := #[] }
def k3m3 : Method := { name := "arrive", desc := "(II)Z", sig := { parameters := [.int, .int], returnType := some .boolean }, accessFlags := 1, code := some k3c3 }
def k3c4 : Code := { maxStack := 2, maxLocals := 4, code := prog_28_method_7_code, exceptionTable := #[], attributes := #[] }
def k3m4 : Method := { name := "kept", desc := "(ID)D", sig := { parameters := [.int, .double], returnType := some .double }, accessFlags := 0, code := some k3c4 }
def k3c5 : Code := { maxStack := 2, maxLocals := 2, code := prog_28_method_9_code, exceptionTable := #[], attributes := #[] }
def k3m5 : Method := { name := "mass", desc := "(I)D", sig := { parameters := [.int], returnType := some .double }, accessFlags := 0, code := some k3c5 }
def k3c6 : Code := { maxStack := 8, maxLocals := 4, code := prog_28_method_10_code, exceptionTable := #[], attributes := #[] }
def k3m6 : Method := { name := "distribution", desc := "([I)Lcom/example/chains_to_rank/chainstorank/graph/Distribution;", sig := { parameters := [(.array .int)], returnType := some (.object "com/example/chains_to_rank/chainstorank/graph/Distribution") }, accessFlags := 0, code := some k3c6 }
/-- com/example/chains_to_rank/chainstorank/graph/DoubleArithmetic -/
def k3 : Class := { plain "com/example/chains_to_rank/chainstorank/graph/DoubleArithmetic" (some 0) with
  accessFlags := 32
  interfaces := #[2]
  cf := some (fileOf pool3 8 #[] #[{ accessFlags := 0, nameIndex := 5, descriptorIndex := 54, attributes := #[] }, { accessFlags := 1, nameIndex := 57, descriptorIndex := 58, attributes := #[] }, { accessFlags := 1, nameIndex := 62, descriptorIndex := 63, attributes := #[] }, { accessFlags := 1, nameIndex := 66, descriptorIndex := 67, attributes := #[] }, { accessFlags := 0, nameIndex := 39, descriptorIndex := 40, attributes := #[] }, { accessFlags := 0, nameIndex := 11, descriptorIndex := 68, attributes := #[] }, { accessFlags := 0, nameIndex := 69, descriptorIndex := 70, attributes := #[] }] 32 2 #[52] #[{ accessFlags := 18, nameIndex := 11, descriptorIndex := 12, attributes := #[] }, { accessFlags := 18, nameIndex := 15, descriptorIndex := 12, attributes := #[] }, { accessFlags := 18, nameIndex := 18, descriptorIndex := 12, attributes := #[] }, { accessFlags := 2, nameIndex := 21, descriptorIndex := 22, attributes := #[] }, { accessFlags := 2, nameIndex := 25, descriptorIndex := 26, attributes := #[] }])
  fields := #[{ name := "mass", type := (.array .double), accessFlags := 18, slot := 0, constantValue := 0 }, { name := "share", type := (.array .double), accessFlags := 18, slot := 1, constantValue := 0 }, { name := "arriving", type := (.array .double), accessFlags := 18, slot := 2, constantValue := 0 }, { name := "roundings", type := .long, accessFlags := 2, slot := 3, constantValue := 0 }, { name := "mostShares", type := .int, accessFlags := 2, slot := 4, constantValue := 0 }]
  methods := #[k3m0, k3m1, k3m2, k3m3, k3m4, k3m5, k3m6]
  instanceTypes := #[(.array .double), (.array .double), (.array .double), .long, .int]
  staticTypes := #[]
  resolved := Array.replicate 74 none
  statics := none }

def pool4 : Array CpInfo := pool [(1, .class_ 2), (0, u "java/lang/Math"), (1, .class_ 6), (1, u "java/lang/Object"), (0, u "<init>"), (0, u "()V"), (89, .class_ 100), (1, u "java/lang/Math$RandomNumberGeneratorHolder"), (71, u "negativeZeroFloatBits"), (0, u "J"), (2, u "negativeZeroDoubleBits"), (21, u "max"), (46, u "$assertionsDisabled"), (0, u "Z"), (88, u "(II)I"), (2, u "twoToTheDoubleScaleDown"), (0, u "D"), (4, u "twoToTheDoubleScaleUp"), (9, u "E"), (3, u "PI"), (2, u "TAU"), (2, u "DEGREES_TO_RADIANS"), (0, u "RADIANS_TO_DEGREES")] 94

def k4m0 : Method := { name := "<init>", desc := "()V", sig := { parameters := [], returnType := none }, accessFlags := 2, code := none }
def k4c1 : Code := { maxStack := 2, maxLocals := 2, code := jdk_29_method_65_code, exceptionTable := #[], attributes := #[] }
def k4m1 : Method := { name := "max", desc := "(II)I", sig := { parameters := [.int, .int], returnType := some .int }, accessFlags := 9, code := some k4c1 }
/-- java/lang/Math -/
def k4 : Class := { plain "java/lang/Math" (some 0) with
  accessFlags := 49
  interfaces := #[]
  cf := some (fileOf pool4 1 #[.nestMembers #[98]] #[{ accessFlags := 2, nameIndex := 7, descriptorIndex := 8, attributes := #[] }, { accessFlags := 9, nameIndex := 198, descriptorIndex := 335, attributes := #[] }] 49 4 #[] #[{ accessFlags := 25, nameIndex := 354, descriptorIndex := 339, attributes := #[] }, { accessFlags := 25, nameIndex := 358, descriptorIndex := 339, attributes := #[] }, { accessFlags := 25, nameIndex := 361, descriptorIndex := 339, attributes := #[] }, { accessFlags := 26, nameIndex := 364, descriptorIndex := 339, attributes := #[] }, { accessFlags := 26, nameIndex := 365, descriptorIndex := 339, attributes := #[] }, { accessFlags := 26, nameIndex := 172, descriptorIndex := 173, attributes := #[] }, { accessFlags := 26, nameIndex := 176, descriptorIndex := 173, attributes := #[] }, { accessFlags := 8, nameIndex := 344, descriptorIndex := 339, attributes := #[] }, { accessFlags := 8, nameIndex := 338, descriptorIndex := 339, attributes := #[] }, { accessFlags := 4120, nameIndex := 245, descriptorIndex := 246, attributes := #[] }])
  fields := #[{ name := "E", type := .double, accessFlags := 25, slot := 0, constantValue := 0 }, { name := "PI", type := .double, accessFlags := 25, slot := 1, constantValue := 0 }, { name := "TAU", type := .double, accessFlags := 25, slot := 2, constantValue := 0 }, { name := "DEGREES_TO_RADIANS", type := .double, accessFlags := 26, slot := 3, constantValue := 0 }, { name := "RADIANS_TO_DEGREES", type := .double, accessFlags := 26, slot := 4, constantValue := 0 }, { name := "negativeZeroFloatBits", type := .long, accessFlags := 26, slot := 5, constantValue := 0 }, { name := "negativeZeroDoubleBits", type := .long, accessFlags := 26, slot := 6, constantValue := 0 }, { name := "twoToTheDoubleScaleUp", type := .double, accessFlags := 8, slot := 7, constantValue := 0 }, { name := "twoToTheDoubleScaleDown", type := .double, accessFlags := 8, slot := 8, constantValue := 0 }, { name := "$assertionsDisabled", type := .boolean, accessFlags := 4120, slot := 9, constantValue := 0 }]
  methods := #[k4m0, k4m1]
  instanceTypes := #[]
  staticTypes := #[.double, .double, .double, .double, .double, .long, .long, .double, .double, .boolean]
  resolved := Array.replicate 460 none
  statics := none }

def pool5 : Array CpInfo := pool [(1, .methodref 2 3), (0, .class_ 4), (0, .nameAndType 5 6), (0, u "java/lang/Object"), (0, u "<init>"), (0, u "()V"), (0, .fieldref 8 9), (0, .class_ 10), (0, .nameAndType 11 12), (0, u "com/example/chains_to_rank/chainstorank/graph/Distribution"), (0, u "entities"), (0, u "[I"), (0, .fieldref 8 14), (0, .nameAndType 15 16), (0, u "probabilities"), (0, u "[D"), (0, .fieldref 8 18), (0, .nameAndType 19 16), (0, u "errorBounds"), (0, .methodref 8 21), (0, .nameAndType 5 22), (0, u "([I[D[D)V"), (2, u "([I[DDD)V"), (7, u "probability"), (0, u "(I)D"), (0, u "errorBound")] 2

def k5c0 : Code := { maxStack := 2, maxLocals := 4, code := prog_27_method_1_code, exceptionTable := #[], attributes := #[] }
def k5m0 : Method := { name := "<init>", desc := "([I[D[D)V", sig := { parameters := [(.array .int), (.array .double), (.array .double)], returnType := none }, accessFlags := 0, code := some k5c0 }
def k5c1 : Code := { maxStack := 6, maxLocals := 8, code := prog_27_method_2_code, exceptionTable := #[], attributes := #[] }
def k5m1 : Method := { name := "<init>", desc := "([I[DDD)V", sig := { parameters := [(.array .int), (.array .double), .double, .double], returnType := none }, accessFlags := 0, code := some k5c1 }
def k5c2 : Code := { maxStack := 2, maxLocals := 2, code := prog_27_method_5_code, exceptionTable := #[], attributes := #[] }
def k5m2 : Method := { name := "probability", desc := "(I)D", sig := { parameters := [.int], returnType := some .double }, accessFlags := 1, code := some k5c2 }
def k5c3 : Code := { maxStack := 2, maxLocals := 2, code := prog_27_method_6_code, exceptionTable := #[], attributes := #[] }
def k5m3 : Method := { name := "errorBound", desc := "(I)D", sig := { parameters := [.int], returnType := some .double }, accessFlags := 1, code := some k5c3 }
/-- com/example/chains_to_rank/chainstorank/graph/Distribution -/
def k5 : Class := { plain "com/example/chains_to_rank/chainstorank/graph/Distribution" (some 0) with
  accessFlags := 33
  interfaces := #[]
  cf := some (fileOf pool5 8 #[] #[{ accessFlags := 0, nameIndex := 5, descriptorIndex := 22, attributes := #[] }, { accessFlags := 0, nameIndex := 5, descriptorIndex := 25, attributes := #[] }, { accessFlags := 1, nameIndex := 33, descriptorIndex := 34, attributes := #[] }, { accessFlags := 1, nameIndex := 35, descriptorIndex := 34, attributes := #[] }] 33 2 #[] #[{ accessFlags := 18, nameIndex := 11, descriptorIndex := 12, attributes := #[] }, { accessFlags := 18, nameIndex := 15, descriptorIndex := 16, attributes := #[] }, { accessFlags := 18, nameIndex := 19, descriptorIndex := 16, attributes := #[] }])
  fields := #[{ name := "entities", type := (.array .int), accessFlags := 18, slot := 0, constantValue := 0 }, { name := "probabilities", type := (.array .double), accessFlags := 18, slot := 1, constantValue := 0 }, { name := "errorBounds", type := (.array .double), accessFlags := 18, slot := 2, constantValue := 0 }]
  methods := #[k5m0, k5m1, k5m2, k5m3]
  instanceTypes := #[(.array .int), (.array .double), (.array .double)]
  staticTypes := #[]
  resolved := Array.replicate 38 none
  statics := none }

def pool6 : Array CpInfo := pool [(1, u "java/lang/Cloneable"), (0, .class_ 1), (0, u "java/lang/Object"), (0, .class_ 3)] 3

/-- java/lang/Cloneable -/
def k6 : Class := { plain "java/lang/Cloneable" (some 0) with
  accessFlags := 1537
  interfaces := #[]
  cf := some (fileOf pool6 2 #[] #[] 1537 4 #[] #[])
  fields := #[]
  methods := #[]
  instanceTypes := #[]
  staticTypes := #[]
  resolved := Array.replicate 8 none
  statics := none }

def pool7 : Array CpInfo := pool [(1, u "java/io/Serializable"), (0, .class_ 1), (0, u "java/lang/Object"), (0, .class_ 3)] 3

/-- java/io/Serializable -/
def k7 : Class := { plain "java/io/Serializable" (some 0) with
  accessFlags := 1537
  interfaces := #[]
  cf := some (fileOf pool7 2 #[] #[] 1537 4 #[] #[])
  fields := #[]
  methods := #[]
  instanceTypes := #[]
  staticTypes := #[]
  resolved := Array.replicate 8 none
  statics := none }

/-- the primitive byte -/
def k8 : Class := { plain "byte" none with kind := .primitive 'B', accessFlags := 0x411 }
/-- [B -/
def k9 : Class := { plain "[B" (some 0) with kind := .array 8 .byte, interfaces := #[6, 7], accessFlags := 1041 }

/-- the primitive double -/
def k10 : Class := { plain "double" none with kind := .primitive 'D', accessFlags := 0x411 }
/-- [D -/
def k11 : Class := { plain "[D" (some 0) with kind := .array 10 .double, interfaces := #[6, 7], accessFlags := 1041 }

/-- the primitive int -/
def k12 : Class := { plain "int" none with kind := .primitive 'I', accessFlags := 0x411 }
/-- [I -/
def k13 : Class := { plain "[I" (some 0) with kind := .array 12 .int, interfaces := #[6, 7], accessFlags := 1041 }

def heap : Heap := #[]
def classes : Array Class := #[k0, k1, k2, k3, k4, k5, k6, k7, k8, k9, k10, k11, k12, k13]
def interned : List (Array UInt16 × Addr) := []
def slotsUsed : Nat := 0
def theMethod : MethodId := ⟨1, 1⟩
def args0 : Array Value := #[.int 5, .int 5, .int 5, .int 5]
def aboutOver (below : List Frame) : State where
  vm := { classes := classes, interned := interned.toArray }
  heap := heap
  slotsUsed := slotsUsed
  threads := #[{ frames := .invoking theMethod args0 :: below }]
def below0 : List Frame := [.native { method := ⟨0, 0⟩, args := #[] }]
def about1 : State := aboutOver below0
def p0 : Program := .bare "" "" ""
def e0 : Env := launch0.env 0 0 0
theorem w_frames : about1.frames = Frame.invoking theMethod args0 :: below0 := rfl
set_option maxRecDepth 65536 in
theorem w_args : argsFit about1.vm theMethod args0 = true := by decide +kernel
set_option maxRecDepth 65536 in
theorem w_heap : heapFits about1 = true := by decide +kernel
set_option maxRecDepth 65536 in
theorem w_runnable : about1.curStatus? = some .runnable := by decide +kernel
set_option maxRecDepth 65536 in
theorem w_alone : about1.alone = true := by decide +kernel
set_option maxRecDepth 65536 in
theorem w_named : about1.methodNamed? x = some theMethod := by decide +kernel
set_option maxRecDepth 65536 in
theorem w_hears : about1.hears theMethod below0 = true := by decide +kernel
set_option maxRecDepth 65536 in
theorem w_ripe : about1.ripe theMethod args0 below0 = true := by decide +kernel
theorem w_running : about1.status = .running := rfl
set_option maxRecDepth 65536 in
theorem w_room : about1.hasRoom e0.platform room_1 = true :=
  launch0.hasRoom_least _ room_1 (by decide +kernel) (by decide +kernel) (by decide +kernel) (by decide +kernel) (by decide +kernel) (by decide +kernel)
theorem allAtoms_all (ts : List Jvm.Cond) (a : Array Jvm.Value) (st : Jvm.State) : (allAtoms ts).before a st = ts.all (fun c => c.before a st) := by
  induction ts with
  | nil => rfl
  | cons c t ih =>
    show (Jvm.Cond.and c (allAtoms t)).before a st = _
    rw [Jvm.Cond.before_and, ih, List.all_cons]
def words1 : List Jvm.Cond := Jvm.Cond.code x code maxLocals ret :: tables_1
/-- a 'code' word, met by the world's own term for the bytes: nothing is compared byte by byte -/
theorem code_word {y : MethodName} {bytes : ByteArray} {mx : Nat} {rt : Option FieldType} {a : Array Value} {s : State} {m : MethodId} {meth : Method} {c : Code} (h1 : s.methodNamed? y = some m) (h2 : s.vm.method? m = some meth) (h3 : meth.code = some c) (h4 : c.code = bytes)
    (h5 : (c.maxLocals == mx && c.exceptionTable.isEmpty && decide (c.maxStack ≤ mostOperands) && decide (meth.sig.returnType = rt) && !meth.locks && decide (parseMethodDescriptor y.desc = some meth.sig)) = true) : (Jvm.Cond.code y bytes mx rt).before a s = true := by
  simp only [Bool.and_eq_true, beq_iff_eq, Bool.not_eq_true', decide_eq_true_eq] at h5
  obtain ⟨⟨⟨⟨⟨g1, g2⟩, g3⟩, g4⟩, g5⟩, g6⟩ := h5
  simp [Cond.before, Cond.holds, Cond.value, h1, h2, h3, h4, g1, g2, g3, g4, g5, g6]
def isCode : Jvm.Cond → Bool
  | .code _ _ _ _ => true
  | _ => false
theorem all_split {L : List Jvm.Cond} {P : Jvm.Cond → Bool} (h1 : L.all (fun c => isCode c || P c) = true) (h2 : ∀ c ∈ L.filter isCode, P c = true) : L.all P = true := by
  refine List.all_eq_true.mpr fun c hc => ?_
  have h := List.all_eq_true.mp h1 c hc
  rcases Bool.eq_false_or_eq_true (isCode c) with hi | hi
  · exact h2 c (List.mem_filter.mpr ⟨hc, hi⟩)
  · simpa [hi] using h
set_option maxRecDepth 65536 in
theorem w_c0 : (Jvm.Cond.code x code maxLocals ret).before args0 about1 = true := code_word (m := ⟨1, 1⟩) (meth := k1m1) (c := k1c1) (by decide +kernel) rfl rfl rfl (by decide +kernel)
set_option maxRecDepth 65536 in
theorem w_c1 : (Jvm.Cond.code ({ cls := "com/example/chains_to_rank/chainstorank/graph/DoubleArithmetic", name := "<init>", desc := "(I)V" } : Jvm.MethodName) prog_28_method_1_code (2 : Nat) (Option.none : Option Jvm.ClassFile.FieldType)).before args0 about1 = true := code_word (m := ⟨3, 0⟩) (meth := k3m0) (c := k3c0) (by decide +kernel) rfl rfl rfl (by decide +kernel)
set_option maxRecDepth 65536 in
theorem w_c2 : (Jvm.Cond.code ({ cls := "java/lang/Object", name := "<init>", desc := "()V" } : Jvm.MethodName) object_method_1_code (1 : Nat) (Option.none : Option Jvm.ClassFile.FieldType)).before args0 about1 = true := code_word (m := ⟨0, 0⟩) (meth := k0m0) (c := k0c0) (by decide +kernel) rfl rfl rfl (by decide +kernel)
set_option maxRecDepth 65536 in
theorem w_c3 : (Jvm.Cond.code ({ cls := "com/example/chains_to_rank/chainstorank/graph/DoubleArithmetic", name := "arrive", desc := "(II)Z" } : Jvm.MethodName) prog_28_method_6_code (3 : Nat) (Option.some Jvm.ClassFile.FieldType.boolean)).before args0 about1 = true := code_word (m := ⟨3, 3⟩) (meth := k3m3) (c := k3c3) (by decide +kernel) rfl rfl rfl (by decide +kernel)
set_option maxRecDepth 65536 in
theorem w_c4 : (Jvm.Cond.code ({ cls := "java/lang/Math", name := "max", desc := "(II)I" } : Jvm.MethodName) jdk_29_method_65_code (2 : Nat) (Option.some Jvm.ClassFile.FieldType.int)).before args0 about1 = true := code_word (m := ⟨4, 1⟩) (meth := k4m1) (c := k4c1) (by decide +kernel) rfl rfl rfl (by decide +kernel)
set_option maxRecDepth 65536 in
theorem w_c5 : (Jvm.Cond.code ({ cls := "com/example/chains_to_rank/chainstorank/graph/DoubleArithmetic", name := "kept", desc := "(ID)D" } : Jvm.MethodName) prog_28_method_7_code (4 : Nat) (Option.some Jvm.ClassFile.FieldType.double)).before args0 about1 = true := code_word (m := ⟨3, 4⟩) (meth := k3m4) (c := k3c4) (by decide +kernel) rfl rfl rfl (by decide +kernel)
set_option maxRecDepth 65536 in
theorem w_c6 : (Jvm.Cond.code ({ cls := "com/example/chains_to_rank/chainstorank/graph/DoubleArithmetic", name := "prepareStep", desc := "([I[I)V" } : Jvm.MethodName) prog_28_method_3_code (4 : Nat) (Option.none : Option Jvm.ClassFile.FieldType)).before args0 about1 = true := code_word (m := ⟨3, 2⟩) (meth := k3m2) (c := k3c2) (by decide +kernel) rfl rfl rfl (by decide +kernel)
set_option maxRecDepth 65536 in
theorem w_c7 : (Jvm.Cond.code ({ cls := "com/example/chains_to_rank/chainstorank/graph/DoubleArithmetic", name := "start", desc := "([I)V" } : Jvm.MethodName) prog_28_method_2_code (8 : Nat) (Option.none : Option Jvm.ClassFile.FieldType)).before args0 about1 = true := code_word (m := ⟨3, 1⟩) (meth := k3m1) (c := k3c1) (by decide +kernel) rfl rfl rfl (by decide +kernel)
set_option maxRecDepth 65536 in
theorem w_c8 : (Jvm.Cond.code ({ cls := "com/example/chains_to_rank/chainstorank/graph/DoubleArithmetic", name := "mass", desc := "(I)D" } : Jvm.MethodName) prog_28_method_9_code (2 : Nat) (Option.some Jvm.ClassFile.FieldType.double)).before args0 about1 = true := code_word (m := ⟨3, 5⟩) (meth := k3m5) (c := k3c5) (by decide +kernel) rfl rfl rfl (by decide +kernel)
set_option maxRecDepth 65536 in
theorem w_c9 : (Jvm.Cond.code ({ cls := "com/example/chains_to_rank/chainstorank/graph/DoubleArithmetic", name := "distribution", desc := "([I)Lcom/example/chains_to_rank/chainstorank/graph/Distribution;" } : Jvm.MethodName) prog_28_method_10_code (4 : Nat) (Option.some (Jvm.ClassFile.FieldType.object "com/example/chains_to_rank/chainstorank/graph/Distribution"))).before args0 about1 = true := code_word (m := ⟨3, 6⟩) (meth := k3m6) (c := k3c6) (by decide +kernel) rfl rfl rfl (by decide +kernel)
set_option maxRecDepth 65536 in
theorem w_c10 : (Jvm.Cond.code ({ cls := "com/example/chains_to_rank/chainstorank/graph/Distribution", name := "<init>", desc := "([I[DDD)V" } : Jvm.MethodName) prog_27_method_2_code (8 : Nat) (Option.none : Option Jvm.ClassFile.FieldType)).before args0 about1 = true := code_word (m := ⟨5, 1⟩) (meth := k5m1) (c := k5c1) (by decide +kernel) rfl rfl rfl (by decide +kernel)
set_option maxRecDepth 65536 in
theorem w_c11 : (Jvm.Cond.code ({ cls := "com/example/chains_to_rank/chainstorank/graph/Distribution", name := "<init>", desc := "([I[D[D)V" } : Jvm.MethodName) prog_27_method_1_code (4 : Nat) (Option.none : Option Jvm.ClassFile.FieldType)).before args0 about1 = true := code_word (m := ⟨5, 0⟩) (meth := k5m0) (c := k5c0) (by decide +kernel) rfl rfl rfl (by decide +kernel)
set_option maxRecDepth 65536 in
theorem w_c12 : (Jvm.Cond.code ({ cls := "com/example/chains_to_rank/chainstorank/graph/Distribution", name := "probability", desc := "(I)D" } : Jvm.MethodName) prog_27_method_5_code (2 : Nat) (Option.some Jvm.ClassFile.FieldType.double)).before args0 about1 = true := code_word (m := ⟨5, 2⟩) (meth := k5m2) (c := k5c2) (by decide +kernel) rfl rfl rfl (by decide +kernel)
set_option maxRecDepth 65536 in
theorem w_c13 : (Jvm.Cond.code ({ cls := "com/example/chains_to_rank/chainstorank/graph/Distribution", name := "errorBound", desc := "(I)D" } : Jvm.MethodName) prog_27_method_6_code (2 : Nat) (Option.some Jvm.ClassFile.FieldType.double)).before args0 about1 = true := code_word (m := ⟨5, 3⟩) (meth := k5m3) (c := k5c3) (by decide +kernel) rfl rfl rfl (by decide +kernel)
def codes1 : List Jvm.Cond := [Jvm.Cond.code x code maxLocals ret, Jvm.Cond.code ({ cls := "com/example/chains_to_rank/chainstorank/graph/DoubleArithmetic", name := "<init>", desc := "(I)V" } : Jvm.MethodName) prog_28_method_1_code (2 : Nat) (Option.none : Option Jvm.ClassFile.FieldType), Jvm.Cond.code ({ cls := "java/lang/Object", name := "<init>", desc := "()V" } : Jvm.MethodName) object_method_1_code (1 : Nat) (Option.none : Option Jvm.ClassFile.FieldType), Jvm.Cond.code ({ cls := "com/example/chains_to_rank/chainstorank/graph/DoubleArithmetic", name := "arrive", desc := "(II)Z" } : Jvm.MethodName) prog_28_method_6_code (3 : Nat) (Option.some Jvm.ClassFile.FieldType.boolean), Jvm.Cond.code ({ cls := "java/lang/Math", name := "max", desc := "(II)I" } : Jvm.MethodName) jdk_29_method_65_code (2 : Nat) (Option.some Jvm.ClassFile.FieldType.int), Jvm.Cond.code ({ cls := "com/example/chains_to_rank/chainstorank/graph/DoubleArithmetic", name := "kept", desc := "(ID)D" } : Jvm.MethodName) prog_28_method_7_code (4 : Nat) (Option.some Jvm.ClassFile.FieldType.double), Jvm.Cond.code ({ cls := "com/example/chains_to_rank/chainstorank/graph/DoubleArithmetic", name := "prepareStep", desc := "([I[I)V" } : Jvm.MethodName) prog_28_method_3_code (4 : Nat) (Option.none : Option Jvm.ClassFile.FieldType), Jvm.Cond.code ({ cls := "com/example/chains_to_rank/chainstorank/graph/DoubleArithmetic", name := "start", desc := "([I)V" } : Jvm.MethodName) prog_28_method_2_code (8 : Nat) (Option.none : Option Jvm.ClassFile.FieldType), Jvm.Cond.code ({ cls := "com/example/chains_to_rank/chainstorank/graph/DoubleArithmetic", name := "mass", desc := "(I)D" } : Jvm.MethodName) prog_28_method_9_code (2 : Nat) (Option.some Jvm.ClassFile.FieldType.double), Jvm.Cond.code ({ cls := "com/example/chains_to_rank/chainstorank/graph/DoubleArithmetic", name := "distribution", desc := "([I)Lcom/example/chains_to_rank/chainstorank/graph/Distribution;" } : Jvm.MethodName) prog_28_method_10_code (4 : Nat) (Option.some (Jvm.ClassFile.FieldType.object "com/example/chains_to_rank/chainstorank/graph/Distribution")), Jvm.Cond.code ({ cls := "com/example/chains_to_rank/chainstorank/graph/Distribution", name := "<init>", desc := "([I[DDD)V" } : Jvm.MethodName) prog_27_method_2_code (8 : Nat) (Option.none : Option Jvm.ClassFile.FieldType), Jvm.Cond.code ({ cls := "com/example/chains_to_rank/chainstorank/graph/Distribution", name := "<init>", desc := "([I[D[D)V" } : Jvm.MethodName) prog_27_method_1_code (4 : Nat) (Option.none : Option Jvm.ClassFile.FieldType), Jvm.Cond.code ({ cls := "com/example/chains_to_rank/chainstorank/graph/Distribution", name := "probability", desc := "(I)D" } : Jvm.MethodName) prog_27_method_5_code (2 : Nat) (Option.some Jvm.ClassFile.FieldType.double), Jvm.Cond.code ({ cls := "com/example/chains_to_rank/chainstorank/graph/Distribution", name := "errorBound", desc := "(I)D" } : Jvm.MethodName) prog_27_method_6_code (2 : Nat) (Option.some Jvm.ClassFile.FieldType.double)]
set_option maxRecDepth 65536 in
theorem codes_eq : words1.filter isCode = codes1 := rfl
theorem w_codes : ∀ c ∈ words1.filter isCode, c.before args0 about1 = true := by
  rw [codes_eq]
  intro c hc
  simp only [codes1, List.mem_cons, List.not_mem_nil, or_false] at hc
  rcases hc with rfl | rfl | rfl | rfl | rfl | rfl | rfl | rfl | rfl | rfl | rfl | rfl | rfl | rfl
  · exact w_c0
  · exact w_c1
  · exact w_c2
  · exact w_c3
  · exact w_c4
  · exact w_c5
  · exact w_c6
  · exact w_c7
  · exact w_c8
  · exact w_c9
  · exact w_c10
  · exact w_c11
  · exact w_c12
  · exact w_c13
set_option maxRecDepth 65536 in
theorem w_t1 : (words1.take 24).all (fun c => isCode c || c.before args0 about1) = true := by decide +kernel
set_option maxRecDepth 65536 in
theorem w_t2 : ((words1.drop 24).take 24).all (fun c => isCode c || c.before args0 about1) = true := by decide +kernel
set_option maxRecDepth 65536 in
theorem w_t3 : (((words1.drop 24).drop 24).take 24).all (fun c => isCode c || c.before args0 about1) = true := by decide +kernel
set_option maxRecDepth 65536 in
theorem w_t4 : (((words1.drop 24).drop 24).drop 24).all (fun c => isCode c || c.before args0 about1) = true := by decide +kernel
theorem w_tables : (allAtoms (Jvm.Cond.code x code maxLocals ret :: tables_1)).before args0 about1 = true := by
  rw [allAtoms_all]
  show words1.all (fun c => c.before args0 about1) = true
  refine all_split ?_ w_codes
  rw [← List.take_append_drop 24 words1, List.all_append, w_t1, ← List.take_append_drop 24 (words1.drop 24), List.all_append, w_t2, ← List.take_append_drop 24 ((words1.drop 24).drop 24), List.all_append, w_t3, w_t4]
  rfl
set_option maxRecDepth 65536 in
theorem w_case : (Jvm.Cond.and given_1 narrow_1).before args0 about1 = true := by decide +kernel
theorem w_applies : (headSpec (Jvm.Cond.code x code maxLocals ret :: tables_1) room_1).applies x e0.platform about1 = true :=
  (Spec.applies_iff w_frames).mpr ⟨w_running, w_runnable, w_alone, w_named, w_hears, w_ripe, w_room, w_tables⟩
theorem atStart : AtStart classFile x code maxLocals ret World_1 tables_1 room_1 Calls_1 rest_1 Pre_1 launch0 p0 e0 about1 theMethod args0 below0 :=
  ⟨lists_1, trivial, launch0.admits_env _ _ _, launch0.least_env, fairChoices_fair.cas, fairChoices_fair.clock, w_frames, w_args, w_heap, w_applies, trivial, trivial, w_case⟩
end start1
theorem witness_1 : WitnessClaimed_1 := ⟨start1.p0, start1.e0, start1.about1, start1.theMethod, start1.args0, start1.below0, start1.atStart⟩
end Jvm.Pilot.@@N@@
