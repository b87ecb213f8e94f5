import JvmDerived
import JvmDerived.Pilot.@@N@@Statement
import JvmDerived.Pilot.@@N@@Code
set_option linter.unusedVariables false
set_option linter.unusedSimpArgs false
namespace Jvm.Pilot.@@N@@
open Jvm Jvm.ClassFile Sem Op Lib Jvm.Free Jvm.Stand Jvm.LawKit Jvm.RoadKit Bundle Jvm.FP Jvm.Free.Fl Jvm.Pilot.@@N@@.Jvm.D
def own_Fin (p : Program) (e : Env) (below : List Frame) (P : State → Outcome → Prop) (a : State) : Prop := ∃ t o, Steps p.tables e below a t ∧ t.status = .running ∧ Ended t below o ∧ P t o
theorem own_fin {p : Program} {e : Env} {below : List Frame} {P : State → Outcome → Prop} {a b : State} (k : ∀ t, Steps p.tables e below b t → Steps p.tables e below a t) (h : own_Fin p e below P b) : own_Fin p e below P a := by
  obtain ⟨t, o, s, r⟩ := h
  exact ⟨t, o, k t s, r⟩
theorem own_rw {T : State} {h : Heap} {a : Addr} {c : Cell} (e : T.heap = h) (q : h[a]? = some c) : T.heap[a]? = some c := by rw [e]; exact q
theorem own_StaKeep {Z : State} {h : Heap} {C n d : String} {v : Value} {n0 : Nat} (O : Old Z n0 h) (F : Sta Z Z.heap C n d v) : Sta Z h C n d v := F.ext O.2

def own_T (Z : State) (h : Heap) (a : Addr) (ty : FieldType) (z : Int32) (f : Int32 → Int32) : Prop := ∃ c : Cell, Arr Z h a c ty ∧ c.slots.size = z.toNatClampNeg ∧ ¬ z < 0 ∧ ∀ j : Int32, ¬ (j < 0 ∨ c.slots.size ≤ j.toNatClampNeg) → c.slots[j.toNatClampNeg]? = some (.int (f j))
def own_up (f : Int32 → Int32) (j x : Int32) : Int32 → Int32 := fun i => if j = i then x else f i
section OwnT
variable {Z : State} {h h' : Heap} {a b : Addr} {ty : FieldType} {z : Int32} {f g : Int32 → Int32}
theorem own_T.lt (F : own_T Z h a ty z f) : a < h.size := by obtain ⟨c, A, -⟩ := F; exact A.lt
theorem own_T.ext (F : own_T Z h a ty z f) (E : Ext h h') : own_T Z h' a ty z f := by obtain ⟨c, A, r⟩ := F; exact ⟨c, A.ext E, r⟩
theorem own_T.other {sl : Nat} {v : Value} (F : own_T Z h a ty z f) (W : Wr h h' b sl v) (q : a ≠ b) : own_T Z h' a ty z f := by obtain ⟨c, A, r⟩ := F; exact ⟨c, A.other W q, r⟩
theorem own_T.keep {ws : List Addr} (F : own_T Z h a ty z f) (K : Keep h h' ws) (q : a ∉ ws) : own_T Z h' a ty z f := by obtain ⟨c, A, r⟩ := F; exact ⟨c, ⟨K.2.1 a c A.1 q, A.2⟩, r⟩
theorem own_T.congr (F : own_T Z h a ty z f) (q : ∀ j : Int32, ¬ j < 0 ∧ j < z → f j = g j) : own_T Z h a ty z g := by
  obtain ⟨c, A, S, N, H⟩ := F
  refine ⟨c, A, S, N, fun j hj => ?_⟩
  have h1 : ¬ j < 0 := fun y => hj (Or.inl y)
  have h2 : j < z := by
    have h3 : ¬ c.slots.size ≤ j.toNatClampNeg := fun y => hj (Or.inr y)
    rw [S] at h3
    have e1 := nat_of h1
    have e2 := nat_of N
    rw [Int32.lt_iff_toInt_lt]; omega
  rw [H j hj, q j ⟨h1, h2⟩]
theorem own_T.set {j x : Int32} (F : own_T Z h a ty z f) (W : Wr h h' a j.toNatClampNeg (.int x)) (q : ¬ j < 0 ∧ j < z) : own_T Z h' a ty z (own_up f j x) := by
  obtain ⟨c, A, S, N, H⟩ := F
  refine ⟨_, A.same W, by rw [sz_set]; exact S, N, fun i hi => ?_⟩
  rw [sz_set] at hi
  unfold own_up
  by_cases e : j = i
  · rw [if_pos e]; exact get_hit (inb_of S q) e.symm
  · rw [if_neg e, get_miss q.1 (fun y => hi (Or.inl y)) (Ne.symm e)]; exact H i hi
theorem own_T.new {k : ClassId} (A : Arr Z h a (newA k ty z) ty) (q : ¬ z < 0) (d : defaultValue ty = .int 0) : own_T Z h a ty z (fun _ => 0) :=
  ⟨_, A, sz_new _ _ _, q, fun j hj => by rw [← d]; exact get_new (by rw [sz_new] at hj; exact hj)⟩
end OwnT
def own_TD (Z : State) (h : Heap) (a : Addr) (z : Int32) (f : Int32 → UInt64) : Prop := ∃ c : Cell, Arr Z h a c .double ∧ c.slots.size = z.toNatClampNeg ∧ ¬ z < 0 ∧ ∀ j : Int32, ¬ (j < 0 ∨ c.slots.size ≤ j.toNatClampNeg) → c.slots[j.toNatClampNeg]? = some (.double (f j))
def own_upD (f : Int32 → UInt64) (j : Int32) (x : UInt64) : Int32 → UInt64 := fun i => if j = i then x else f i
section OwnTD
variable {Z : State} {h h' : Heap} {a b : Addr} {z : Int32} {f g : Int32 → UInt64}
theorem own_TD.lt (F : own_TD Z h a z f) : a < h.size := by obtain ⟨c, A, -⟩ := F; exact A.lt
theorem own_TD.ext (F : own_TD Z h a z f) (E : Ext h h') : own_TD Z h' a z f := by obtain ⟨c, A, r⟩ := F; exact ⟨c, A.ext E, r⟩
theorem own_TD.other {sl : Nat} {v : Value} (F : own_TD Z h a z f) (W : Wr h h' b sl v) (q : a ≠ b) : own_TD Z h' a z f := by obtain ⟨c, A, r⟩ := F; exact ⟨c, A.other W q, r⟩
theorem own_TD.keep {ws : List Addr} (F : own_TD Z h a z f) (K : Keep h h' ws) (q : a ∉ ws) : own_TD Z h' a z f := by obtain ⟨c, A, r⟩ := F; exact ⟨c, ⟨K.2.1 a c A.1 q, A.2⟩, r⟩
theorem own_TD.congr (F : own_TD Z h a z f) (q : ∀ j : Int32, ¬ j < 0 ∧ j < z → f j = g j) : own_TD Z h a z g := by
  obtain ⟨c, A, S, N, H⟩ := F
  refine ⟨c, A, S, N, fun j hj => ?_⟩
  have h1 : ¬ j < 0 := fun y => hj (Or.inl y)
  have h2 : j < z := by
    have h3 : ¬ c.slots.size ≤ j.toNatClampNeg := fun y => hj (Or.inr y)
    rw [S] at h3
    have e1 := nat_of h1
    have e2 := nat_of N
    rw [Int32.lt_iff_toInt_lt]; omega
  rw [H j hj, q j ⟨h1, h2⟩]
theorem own_TD.set {j : Int32} {x : UInt64} (F : own_TD Z h a z f) (W : Wr h h' a j.toNatClampNeg (.double x)) (q : ¬ j < 0 ∧ j < z) : own_TD Z h' a z (own_upD f j x) := by
  obtain ⟨c, A, S, N, H⟩ := F
  refine ⟨_, A.same W, by rw [sz_set]; exact S, N, fun i hi => ?_⟩
  rw [sz_set] at hi
  unfold own_upD
  by_cases e : j = i
  · rw [if_pos e]; exact get_hit (inb_of S q) e.symm
  · rw [if_neg e, get_miss q.1 (fun y => hi (Or.inl y)) (Ne.symm e)]; exact H i hi
theorem own_TD.new {k : ClassId} (A : Arr Z h a (newA k .double z) .double) (q : ¬ z < 0) : own_TD Z h a z (fun _ => 0) :=
  ⟨_, A, sz_new _ _ _, q, fun j hj => by exact get_new (by rw [sz_new] at hj; exact hj)⟩
end OwnTD
def own_ab (x : UInt64) : UInt64 := x &&& 0x7fffffffffffffff
theorem own_abn {x : UInt64} (h : NoNaN64 x) : NoNaN64 (own_ab x) := by
  unfold NoNaN64 own_ab at *
  have e : x &&& 0x7fffffffffffffff &&& 0x7fffffffffffffff = x &&& 0x7fffffffffffffff := by rw [UInt64.and_assoc]; rfl
  rw [e]; exact h
theorem own_abf {x : UInt64} (h : Fin64 x) : Fin64 (own_ab x) := abs_fin h
theorem own_bigf : Fin64 (4787326403894837248 : UInt64) := by unfold Fin64; decide
theorem own_nbf : Fin64 (FP.dneg (4787326403894837248 : UInt64)) := by unfold Fin64; decide +kernel
theorem own_epf : Fin64 (4457293557087583675 : UInt64) := by unfold Fin64; decide
theorem own_zf : Fin64 (0 : UInt64) := by unfold Fin64; decide
theorem own_b32 (t : Int32) : B53 t.toInt64 := by
  have := rng32 t
  unfold B53; rw [c_i2l]; omega
theorem own_b0 : B53 (0 : Int64) := by unfold B53; decide
theorem own_add0 (t : Int32) : FP.dadd (0 : UInt64) (FP.i2d t) = FP.i2d t := by
  have h := dadd_w own_b0 (own_b32 t)
  rw [l2d_zero, ← i2d_w] at h
  rw [h, i2d_w]; congr 1
  exact Int64.zero_add _
theorem own_sub0 (t : Int32) : FP.dsub (FP.i2d t) (0 : UInt64) = FP.i2d t := by
  have h := dsub_w (own_b32 t) own_b0
  rw [l2d_zero, ← i2d_w] at h
  rw [h, i2d_w]; congr 1
  exact Int64.sub_zero _
def own_av (t : Int32) : Int64 := if t.toInt64 < 0 then -t.toInt64 else t.toInt64
theorem own_avi (t : Int32) : (own_av t).toInt = (if t.toInt < 0 then -t.toInt else t.toInt) ∧ B53 (own_av t) ∧ ¬ own_av t < 0 := by
  have r := rng32 t
  have i := c_i2l t
  have n := c_lneg t.toInt64
  have rn := rng64 (-t.toInt64)
  have z : (0 : Int64).toInt = 0 := rfl
  unfold own_av B53
  by_cases q : t.toInt64 < 0
  · rw [if_pos q]
    rw [Int64.lt_iff_toInt_lt] at q
    rw [if_pos (by omega), Int64.lt_iff_toInt_lt]
    omega
  · rw [if_neg q]
    rw [Int64.lt_iff_toInt_lt] at q
    rw [if_neg (by omega), Int64.lt_iff_toInt_lt]
    omega
theorem own_abi (t : Int32) : own_ab (FP.i2d t) = FP.l2d (own_av t) := by
  unfold own_ab own_av
  rw [i2d_w]
  by_cases q : t.toInt64 < 0
  · rw [if_pos q]; exact abs_n (own_b32 t) q
  · rw [if_neg q]; exact abs_w q
theorem own_adda (t : Int32) : FP.dadd (0 : UInt64) (own_ab (FP.i2d t)) = own_ab (FP.i2d t) := by
  have h := dadd_w own_b0 (own_avi t).2.1
  rw [l2d_zero] at h
  rw [own_abi, h]; congr 1
  exact Int64.zero_add _
theorem own_abab (t : Int32) : own_ab (own_ab (FP.i2d t)) = own_ab (FP.i2d t) := by
  unfold own_ab; rw [UInt64.and_assoc]; rfl
theorem own_mx (t : Int32) : Native.java_lang_Math.nans.pick64 true (own_ab (FP.i2d t)) (0 : UInt64) = own_ab (FP.i2d t) := by
  have h := max_g (own_avi t).2.1 own_b0 (own_avi t).2.2
  rw [l2d_zero, ← own_abi] at h
  exact h
theorem own_nnm (t : Int32) : NoNaN64 (FP.dmul (4457293557087583675 : UInt64) (own_ab (FP.i2d t))) := dmul_out own_epf (own_abf (i2d_fin t))
theorem own_bits (x : UInt64) (h : x.toNat < 9223372036854775808) : Core.dkey x = x.toNat := by
  unfold Core.dkey
  rw [if_neg (by omega)]
theorem own_val {x : UInt64} (h : NoNaN64 x) : Core.val64 x ≠ .nan := by
  rw [noNaN64_no, ← Bool.not_eq_true, Core.dIsNaN_iff] at h; exact h
theorem own_gt {t : Int32} (h : ¬ t = 0) : FP.dcmp (own_ab (FP.i2d t)) (FP.dmul (4457293557087583675 : UInt64) (own_ab (FP.i2d t))) = some .gt := by
  have hb : Big64 1023 (own_ab (FP.i2d t)) := by
    rw [own_abi]
    refine l2d_big fun q => h ?_
    have e := (own_avi t).1
    rw [q, show (0 : Int64).toInt = 0 from rfl] at e
    apply Int32.toInt_inj.mp
    rw [show (0 : Int32).toInt = 0 from rfl]
    split at e <;> omega
  have ha : (own_ab (FP.i2d t)).toNat < 9223372036854775808 := by
    unfold own_ab
    rw [UInt64.toNat_and]
    exact Nat.lt_of_le_of_lt Nat.and_le_right (by decide)
  have hn := own_nnm t
  have hv := own_val (own_abf (i2d_fin t)).noNaN
  have hp := own_val hn
  generalize own_ab (FP.i2d t) = x at *
  have e1 : x.toNat % 9223372036854775808 = x.toNat := Nat.mod_eq_of_lt ha
  have m1 : Mag64 (x.toNat / 4503599627370496 + 1) x := by
    unfold Mag64; rw [e1]; omega
  have m2 : Mag64 990 (4457293557087583675 : UInt64) := by unfold Mag64; decide
  have hk : x.toNat / 4503599627370496 + 1 ≤ 2047 := by have := hb.2; rw [e1] at this; omega
  have m3 := dmul_mag m2 m1 (by decide) hk
  have hb1 := hb.1
  rw [e1] at hb1
  unfold Mag64 at m3
  refine (Core.dcmp_gt_key hv hp).mpr ?_
  rw [own_bits x ha]
  unfold Core.dkey
  have hl := (FP.dmul (4457293557087583675 : UInt64) x).toNat_lt
  split <;> omega
theorem own_eq0 : cmpValue (FP.dcmp (own_ab (FP.i2d 0)) (FP.dmul (4457293557087583675 : UInt64) (own_ab (FP.i2d 0)))) .g = 0 := by decide +kernel
theorem own_inr {z a : Int32} {x : Int32} (hz : 1 ≤ z.toInt) (e : ((x &&& (2147483647 : Int32)) % z) = a) : ¬ a < 0 ∧ a < z := by
  have m := c_mask x (2147483647 : Int32) 31 (by decide) (by decide)
  have q := (c_iremV (x &&& (2147483647 : Int32)) z).1 (by omega) (by omega)
  rw [e] at q
  rw [Int32.lt_iff_toInt_lt, Int32.lt_iff_toInt_lt, show (0 : Int32).toInt = 0 from rfl]
  omega
theorem own_zb {x z : Int32} (e : ((1 : Int32) + (x &&& (3 : Int32))) = z) : 1 ≤ z.toInt ∧ z.toInt ≤ 4 := by
  have m := c_mask x (3 : Int32) 2 (by decide) (by decide)
  have a := c_iadd (1 : Int32) (x &&& (3 : Int32))
  have r := rng32 z
  rw [e, show (1 : Int32).toInt = 1 from rfl] at a
  omega
theorem own_znz {z : Int32} (h : 1 ≤ z.toInt ∧ z.toInt ≤ 4) : z ≠ 0 := by rintro rfl; revert h; decide
theorem own_zn {z : Int32} (h : 1 ≤ z.toInt ∧ z.toInt ≤ 4) : ¬ z < 0 := by rw [Int32.lt_iff_toInt_lt, show (0 : Int32).toInt = 0 from rfl]; omega
theorem own_zc {z : Int32} (h : 1 ≤ z.toInt ∧ z.toInt ≤ 4) : z.toNatClampNeg ≤ 4 := by unfold Int32.toNatClampNeg; omega
theorem own_and3 (k : Int32) : (k &&& (3 : Int32)) = 0 ∨ (k &&& (3 : Int32)) = 1 ∨ (k &&& (3 : Int32)) = 2 ∨ (k &&& (3 : Int32)) = 3 := by
  have h := c_mask k (3 : Int32) 2 (by decide) (by decide)
  simp only [← Int32.toInt_inj]
  rw [show (0 : Int32).toInt = 0 from rfl, show (1 : Int32).toInt = 1 from rfl, show (2 : Int32).toInt = 2 from rfl, show (3 : Int32).toInt = 3 from rfl, h]; omega
theorem own_0in {z : Int32} (h : 1 ≤ z.toInt ∧ z.toInt ≤ 4) : ¬ (0 : Int32) < 0 ∧ (0 : Int32) < z := ⟨by decide, by rw [Int32.lt_iff_toInt_lt, show (0 : Int32).toInt = 0 from rfl]; omega⟩
theorem own_1in {z a b : Int32} (ha : ¬ a < 0 ∧ a < z) (hb : ¬ b < 0 ∧ b < z) (n : ¬ b = a) : ¬ (1 : Int32) < 0 ∧ (1 : Int32) < z := ⟨by decide, by
  have q : b.toInt ≠ a.toInt := fun y => n (Int32.toInt_inj.mp y)
  rw [Int32.lt_iff_toInt_lt, Int32.lt_iff_toInt_lt, show (0 : Int32).toInt = 0 from rfl] at *
  rw [show (1 : Int32).toInt = 1 from rfl]
  omega⟩
theorem own_d1_0 : decode prog_88_method_1_code 0 = .ok (.aload_n 0, 1) := by decide +kernel
theorem own_d1_1 : decode prog_88_method_1_code 1 = .ok (.invokespecial 1, 3) := by decide +kernel
theorem own_d1_4 : decode prog_88_method_1_code 4 = .ok (.aload_n 0, 1) := by decide +kernel
theorem own_d1_5 : decode prog_88_method_1_code 5 = .ok (.iload_n 1, 1) := by decide +kernel
theorem own_d1_6 : decode prog_88_method_1_code 6 = .ok (.newarray .double, 2) := by decide +kernel
theorem own_d1_8 : decode prog_88_method_1_code 8 = .ok (.putfield 7, 3) := by decide +kernel
theorem own_d1_11 : decode prog_88_method_1_code 11 = .ok (.aload_n 0, 1) := by decide +kernel
theorem own_d1_12 : decode prog_88_method_1_code 12 = .ok (.iload_n 1, 1) := by decide +kernel
theorem own_d1_13 : decode prog_88_method_1_code 13 = .ok (.newarray .double, 2) := by decide +kernel
theorem own_d1_15 : decode prog_88_method_1_code 15 = .ok (.putfield 13, 3) := by decide +kernel
theorem own_d1_18 : decode prog_88_method_1_code 18 = .ok (.aload_n 0, 1) := by decide +kernel
theorem own_d1_19 : decode prog_88_method_1_code 19 = .ok (.iload_n 1, 1) := by decide +kernel
theorem own_d1_20 : decode prog_88_method_1_code 20 = .ok (.newarray .int, 2) := by decide +kernel
theorem own_d1_22 : decode prog_88_method_1_code 22 = .ok (.putfield 16, 3) := by decide +kernel
theorem own_d1_25 : decode prog_88_method_1_code 25 = .ok (.aload_n 0, 1) := by decide +kernel
theorem own_d1_26 : decode prog_88_method_1_code 26 = .ok (.iload_n 1, 1) := by decide +kernel
theorem own_d1_27 : decode prog_88_method_1_code 27 = .ok (.newarray .boolean, 2) := by decide +kernel
theorem own_d1_29 : decode prog_88_method_1_code 29 = .ok (.putfield 20, 3) := by decide +kernel
theorem own_d1_32 : decode prog_88_method_1_code 32 = .ok (.return_, 1) := by decide +kernel
theorem own_pn_com_example_chains_to_rank_chainstorank_ranker_Scores : plainName "com/example/chains_to_rank/chainstorank/ranker/Scores" = true := by first | (simp [plainName, overriddenIn]; done) | decide +kernel
theorem own_ef_rm_init (mM : MethodId) (x0 : Addr) (x1 : Int32) : entryFrame mM #[(.ref x0), (.int x1)] 2 = mkF mM 0 #[.val (.ref x0), .val (.int x1)] [] := by first | (simp [entryFrame, mkF, argsToLocals, Value.category]; done) | rfl
def Q_rm_init (Z : State) (a : Addr) (z : Int32) (h0 : Heap) (n0 : Nat) (vV : Option Value) (hH : Heap) (lA : List Loc) : Prop := ∃ v : Addr, ∃ g : Addr, ∃ s : Addr, ∃ b : Addr, vV = none ∧ Fr n0 lA ∧ (Keep h0 hH [a]) ∧ (h0.size ≤ v) ∧ (h0.size ≤ g) ∧ (h0.size ≤ s) ∧ (h0.size ≤ b) ∧ (v ≠ g) ∧ (v ≠ s) ∧ (v ≠ b) ∧ (g ≠ s) ∧ (g ≠ b) ∧ (s ≠ b) ∧ (Exa Z hH a "com/example/chains_to_rank/chainstorank/ranker/Scores") ∧ (Fld Z hH a "com/example/chains_to_rank/chainstorank/ranker/Scores" "values" "[D" (.ref v)) ∧ (Fld Z hH a "com/example/chains_to_rank/chainstorank/ranker/Scores" "magnitudes" "[D" (.ref g)) ∧ (Fld Z hH a "com/example/chains_to_rank/chainstorank/ranker/Scores" "scored" "[I" (.ref s)) ∧ (Fld Z hH a "com/example/chains_to_rank/chainstorank/ranker/Scores" "isScored" "[Z" (.ref b)) ∧ (Fld Z hH a "com/example/chains_to_rank/chainstorank/ranker/Scores" "scoredCount" "I" (.int (0 : Int32))) ∧ (own_TD Z hH v z (fun _ => (0 : UInt64))) ∧ (own_TD Z hH g z (fun _ => (0 : UInt64))) ∧ (own_T Z hH s .int z (fun _ => (0 : Int32))) ∧ (own_T Z hH b .boolean z (fun _ => (0 : Int32)))
set_option maxRecDepth 65536 in
set_option maxHeartbeats 40000000 in
theorem rm_init (lL : Launch) (Z : State) (a0 : Array Value) (hw : ∀ d ∈ tables_1, d.before a0 Z = true) (ws : List Jvm.Cond) (a : Addr) (z : Int32) (h0 : Heap) (n0 : Nat) (Z0 : n0 ≤ h0.size) (Ea : Exa Z h0 a "com/example/chains_to_rank/chainstorank/ranker/Scores") (F0 : Fld Z h0 a "com/example/chains_to_rank/chainstorank/ranker/Scores" "values" "[D" .null) (F1 : Fld Z h0 a "com/example/chains_to_rank/chainstorank/ranker/Scores" "magnitudes" "[D" .null) (F2 : Fld Z h0 a "com/example/chains_to_rank/chainstorank/ranker/Scores" "scored" "[I" .null) (F3 : Fld Z h0 a "com/example/chains_to_rank/chainstorank/ranker/Scores" "isScored" "[Z" .null) (Fc : Fld Z h0 a "com/example/chains_to_rank/chainstorank/ranker/Scores" "scoredCount" "I" (.int (0 : Int32))) (ga : n0 ≤ a) (hz : 1 ≤ z.toInt ∧ z.toInt ≤ 4) :
    MetFree lL (⟨"com/example/chains_to_rank/chainstorank/ranker/Scores", "<init>", "(I)V"⟩ : MethodName) (head1 (Jvm.Cond.code (⟨"com/example/chains_to_rank/chainstorank/ranker/Scores", "<init>", "(I)V"⟩ : MethodName) prog_88_method_1_code 2 none :: ws) ({ frames := 1, cells := 4, slots := 16, locals := 12 } : Room)) (fun aA uU => aA = #[(.ref a), (.int z)] ∧ Z.Warmed39 uU.vm ∧ uU.heap = h0) (fun _ _ _ _ _ => True) (fun _ uU oO uU' => ∃ vV lA, oO = .returned vV ∧ Q_rm_init Z a z h0 n0 vV uU'.heap lA ∧ FrameEnd uU oO uU' lA ({ frames := 1, cells := 4, slots := 16, locals := 12 } : Room).cells ({ frames := 1, cells := 4, slots := 16, locals := 12 } : Room).slots) := by
  refine MetFree.of_bodySF (plainFor_of_name own_pn_com_example_chains_to_rank_chainstorank_ranker_Scores) hisR ?_
  intro pP eE sS mM args below meth cC s₁ Bd hml0 hP hK
  obtain ⟨rfl, hZ, hh⟩ := hP
  have hx := Bd.exec
  have hby := Bd.bytes
  have hml : cC.maxLocals = 2 := hml0
  have hown : sS.vm.findClass "com/example/chains_to_rank/chainstorank/ranker/Scores" = some mM.cls := findClass_of_methodNamed Bd.named
  have hnm := (name_of_methodNamed Bd.named Bd.method).1
  have X0 : Stand pP lL eE ({ frames := 1, cells := 4, slots := 16, locals := 12 } : Room) sS mM #[(.ref a), (.int z)] below meth cC s₁ [] 0 0 := Stand.of_body Bd
  have e0 : s₁.heap = h0 := by rw [← hh, Bd.state]; rfl
  have N0 := Fr.nil n0
  have K0 := Keep.refl h0 [a]
  show own_Fin pP eE below (fun tT oO => ∃ vV lA, oO = .returned vV ∧ Q_rm_init Z a z h0 n0 vV tT.heap lA ∧ FrameEnd sS oO tT lA ({ frames := 1, cells := 4, slots := 16, locals := 12 } : Room).cells ({ frames := 1, cells := 4, slots := 16, locals := 12 } : Room).slots) (s₁.setTop (entryFrame mM #[(.ref a), (.int z)] 2))
  refine own_fin (b := s₁.setTop (mkF mM 0 #[.val (.ref a), .val (.int z)] [])) (fun tT kK => castTop (own_ef_rm_init mM a z) kK) ?_
  refine own_fin (b := s₁.setTop (mkF mM 1 #[.val (.ref a), .val (.int z)] [(.ref a)])) (fun tT kK => ?_) ?_
  · show Steps pP.tables eE below (s₁.setTop (mkF mM 0 #[.val (.ref a), .val (.int z)] [])) tT
    refine XS.aloadN X0.here hx rfl (Jvm.hb hby own_d1_0) rfl rfl ?_
    show Steps pP.tables eE below (s₁.setTop (mkF mM 1 #[.val (.ref a), .val (.int z)] [(.ref a)])) tT
    exact kK
  obtain ⟨T1_, X1_, e1_, st1_⟩ := initO X0 hx hZ hown (hw _ (List.mem_of_getElem? (i := 8) rfl)) (hw _ (List.mem_of_getElem? (i := 9) rfl)) (hw _ (List.mem_of_getElem? (i := 10) rfl)) e0 (g := (mkF mM 1 #[.val (.ref a), .val (.int z)] [(.ref a)])) rfl (by rw [hml]; rfl) rfl (Jvm.hb hby own_d1_1) (by decide) (W := 0) (by show 2 * 0 + _ ≤ _; exact Nat.le_of_eq rfl) (by decide)
  refine own_fin st1_ ?_
  show own_Fin pP eE below _ (T1_.setTop (mkF mM 4 #[.val (.ref a), .val (.int z)] []))
  refine own_fin (b := T1_.setTop (mkF mM 6 #[.val (.ref a), .val (.int z)] [(.int z), (.ref a)])) (fun tT kK => ?_) ?_
  · show Steps pP.tables eE below (T1_.setTop (mkF mM 4 #[.val (.ref a), .val (.int z)] [])) tT
    refine XS.aloadN X1_.here hx rfl (Jvm.hb hby own_d1_4) rfl rfl ?_
    show Steps pP.tables eE below (T1_.setTop (mkF mM 5 #[.val (.ref a), .val (.int z)] [(.ref a)])) tT
    refine XS.iloadN X1_.here hx rfl (Jvm.hb hby own_d1_5) rfl ?_
    show Steps pP.tables eE below (T1_.setTop (mkF mM 6 #[.val (.ref a), .val (.int z)] [(.int z), (.ref a)])) tT
    exact kK
  obtain ⟨T2_, h2_, k2_, X2_, e2_, E2_, A2_, st2_⟩ := newP X1_ hx hZ (hw _ (List.mem_of_getElem? (i := 11) rfl)) e1_ (g := (mkF mM 6 #[.val (.ref a), .val (.int z)] [(.int z), (.ref a)])) rfl (Jvm.hb hby own_d1_6) rfl (own_zn hz) (cap := 4) (own_zc hz) (by decide) (by decide) (by decide)
  obtain ⟨b2_, g2_⟩ : ∃ z, z = h0.size := ⟨_, rfl⟩
  rw [← g2_] at A2_ st2_
  have sz_b2_ : h0.size ≤ b2_ := Nat.le_trans K0.1 (Nat.le_of_eq g2_.symm)
  have ge_b2_ : n0 ≤ b2_ := Nat.le_trans Z0 sz_b2_
  have ne3_ : a ≠ b2_ := Nat.ne_of_lt (Nat.lt_of_lt_of_le Ea.lt (Nat.le_of_eq g2_.symm))
  have fc4_ := Ea.ext E2_
  have fc5_ := F0.ext E2_
  have fc6_ := F1.ext E2_
  have fc7_ := F2.ext E2_
  have fc8_ := F3.ext E2_
  have fc9_ := Fc.ext E2_
  have K2_ := K0.ext E2_
  have V2_ : own_TD Z h2_ b2_ z (fun _ => (0 : UInt64)) := own_TD.new A2_ (own_zn hz)
  refine own_fin st2_ ?_
  show own_Fin pP eE below _ (T2_.setTop (mkF mM 8 #[.val (.ref a), .val (.int z)] [(.ref b2_), (.ref a)]))
  obtain ⟨T10_, h10_, X10_, e10_, W10_, st10_⟩ := putF X2_ hx hZ hown (host := "") (Or.inl (hw _ (List.mem_of_getElem? (i := 12) rfl))) Via.refl e2_ fc5_ fc4_ (Or.inr ⟨(hw _ (List.mem_of_getElem? (i := 13) rfl)), rfl, hnm⟩) (hw _ (List.mem_of_getElem? (i := 3) rfl)) (ty := (.array .double)) (by decide) rfl rfl (g := (mkF mM 8 #[.val (.ref a), .val (.int z)] [(.ref b2_), (.ref a)])) rfl rfl (Jvm.hb hby own_d1_8)
  have Fw10_ := fc5_.same W10_
  have fc11_ := fc4_.wr W10_
  have fc12_ := fc6_.other W10_ (Or.inr (slot_ne (Or.inr (hw _ (List.mem_of_getElem? (i := 15) rfl))) (Or.inr (hw _ (List.mem_of_getElem? (i := 13) rfl))) (by decide) (t := (.array .double)) (t' := (.array .double)) (by decide) (by decide)))
  have fc13_ := fc7_.other W10_ (Or.inr (slot_ne (Or.inr (hw _ (List.mem_of_getElem? (i := 18) rfl))) (Or.inr (hw _ (List.mem_of_getElem? (i := 13) rfl))) (by decide) (t := (.array .int)) (t' := (.array .double)) (by decide) (by decide)))
  have fc14_ := fc8_.other W10_ (Or.inr (slot_ne (Or.inr (hw _ (List.mem_of_getElem? (i := 21) rfl))) (Or.inr (hw _ (List.mem_of_getElem? (i := 13) rfl))) (by decide) (t := (.array .boolean)) (t' := (.array .double)) (by decide) (by decide)))
  have fc15_ := fc9_.other W10_ (Or.inr (slot_ne (Or.inl (hw _ (List.mem_of_getElem? (i := 28) rfl))) (Or.inr (hw _ (List.mem_of_getElem? (i := 13) rfl))) (by decide) (t := .int) (t' := (.array .double)) (by decide) (by decide)))
  have fc16_ := V2_.other W10_ (Ne.symm ne3_)
  have K10_ := K2_.wr W10_ (Or.inl (List.mem_of_getElem? (i := 0) rfl))
  have N10_ := Fr.snoc X10_ N0 ga
  refine own_fin st10_ ?_
  show own_Fin pP eE below _ (T10_.setTop (mkF mM 11 #[.val (.ref a), .val (.int z)] []))
  refine own_fin (b := T10_.setTop (mkF mM 13 #[.val (.ref a), .val (.int z)] [(.int z), (.ref a)])) (fun tT kK => ?_) ?_
  · show Steps pP.tables eE below (T10_.setTop (mkF mM 11 #[.val (.ref a), .val (.int z)] [])) tT
    refine XS.aloadN X10_.here hx rfl (Jvm.hb hby own_d1_11) rfl rfl ?_
    show Steps pP.tables eE below (T10_.setTop (mkF mM 12 #[.val (.ref a), .val (.int z)] [(.ref a)])) tT
    refine XS.iloadN X10_.here hx rfl (Jvm.hb hby own_d1_12) rfl ?_
    show Steps pP.tables eE below (T10_.setTop (mkF mM 13 #[.val (.ref a), .val (.int z)] [(.int z), (.ref a)])) tT
    exact kK
  obtain ⟨T17_, h17_, k17_, X17_, e17_, E17_, A17_, st17_⟩ := newP X10_ hx hZ (hw _ (List.mem_of_getElem? (i := 11) rfl)) e10_ (g := (mkF mM 13 #[.val (.ref a), .val (.int z)] [(.int z), (.ref a)])) rfl (Jvm.hb hby own_d1_13) rfl (own_zn hz) (cap := 4) (own_zc hz) (by decide) (by decide) (by decide)
  obtain ⟨b17_, g17_⟩ : ∃ z, z = h10_.size := ⟨_, rfl⟩
  rw [← g17_] at A17_ st17_
  have sz_b17_ : h0.size ≤ b17_ := Nat.le_trans K10_.1 (Nat.le_of_eq g17_.symm)
  have ge_b17_ : n0 ≤ b17_ := Nat.le_trans Z0 sz_b17_
  have ne18_ : a ≠ b17_ := Nat.ne_of_lt (Nat.lt_of_lt_of_le fc11_.lt (Nat.le_of_eq g17_.symm))
  have ne19_ : b2_ ≠ b17_ := Nat.ne_of_lt (Nat.lt_of_lt_of_le fc16_.lt (Nat.le_of_eq g17_.symm))
  have fc20_ := fc11_.ext E17_
  have fc21_ := Fw10_.ext E17_
  have fc22_ := fc12_.ext E17_
  have fc23_ := fc13_.ext E17_
  have fc24_ := fc14_.ext E17_
  have fc25_ := fc15_.ext E17_
  have fc26_ := fc16_.ext E17_
  have K17_ := K10_.ext E17_
  have V17_ : own_TD Z h17_ b17_ z (fun _ => (0 : UInt64)) := own_TD.new A17_ (own_zn hz)
  refine own_fin st17_ ?_
  show own_Fin pP eE below _ (T17_.setTop (mkF mM 15 #[.val (.ref a), .val (.int z)] [(.ref b17_), (.ref a)]))
  obtain ⟨T27_, h27_, X27_, e27_, W27_, st27_⟩ := putF X17_ hx hZ hown (host := "") (Or.inl (hw _ (List.mem_of_getElem? (i := 14) rfl))) Via.refl e17_ fc22_ fc20_ (Or.inr ⟨(hw _ (List.mem_of_getElem? (i := 15) rfl)), rfl, hnm⟩) (hw _ (List.mem_of_getElem? (i := 3) rfl)) (ty := (.array .double)) (by decide) rfl rfl (g := (mkF mM 15 #[.val (.ref a), .val (.int z)] [(.ref b17_), (.ref a)])) rfl rfl (Jvm.hb hby own_d1_15)
  have Fw27_ := fc22_.same W27_
  have fc28_ := fc20_.wr W27_
  have fc29_ := fc21_.other W27_ (Or.inr (slot_ne (Or.inr (hw _ (List.mem_of_getElem? (i := 13) rfl))) (Or.inr (hw _ (List.mem_of_getElem? (i := 15) rfl))) (by decide) (t := (.array .double)) (t' := (.array .double)) (by decide) (by decide)))
  have fc30_ := fc23_.other W27_ (Or.inr (slot_ne (Or.inr (hw _ (List.mem_of_getElem? (i := 18) rfl))) (Or.inr (hw _ (List.mem_of_getElem? (i := 15) rfl))) (by decide) (t := (.array .int)) (t' := (.array .double)) (by decide) (by decide)))
  have fc31_ := fc24_.other W27_ (Or.inr (slot_ne (Or.inr (hw _ (List.mem_of_getElem? (i := 21) rfl))) (Or.inr (hw _ (List.mem_of_getElem? (i := 15) rfl))) (by decide) (t := (.array .boolean)) (t' := (.array .double)) (by decide) (by decide)))
  have fc32_ := fc25_.other W27_ (Or.inr (slot_ne (Or.inl (hw _ (List.mem_of_getElem? (i := 28) rfl))) (Or.inr (hw _ (List.mem_of_getElem? (i := 15) rfl))) (by decide) (t := .int) (t' := (.array .double)) (by decide) (by decide)))
  have fc33_ := fc26_.other W27_ (Ne.symm ne3_)
  have fc34_ := V17_.other W27_ (Ne.symm ne18_)
  have K27_ := K17_.wr W27_ (Or.inl (List.mem_of_getElem? (i := 0) rfl))
  have N27_ := Fr.snoc X27_ N10_ ga
  refine own_fin st27_ ?_
  show own_Fin pP eE below _ (T27_.setTop (mkF mM 18 #[.val (.ref a), .val (.int z)] []))
  refine own_fin (b := T27_.setTop (mkF mM 20 #[.val (.ref a), .val (.int z)] [(.int z), (.ref a)])) (fun tT kK => ?_) ?_
  · show Steps pP.tables eE below (T27_.setTop (mkF mM 18 #[.val (.ref a), .val (.int z)] [])) tT
    refine XS.aloadN X27_.here hx rfl (Jvm.hb hby own_d1_18) rfl rfl ?_
    show Steps pP.tables eE below (T27_.setTop (mkF mM 19 #[.val (.ref a), .val (.int z)] [(.ref a)])) tT
    refine XS.iloadN X27_.here hx rfl (Jvm.hb hby own_d1_19) rfl ?_
    show Steps pP.tables eE below (T27_.setTop (mkF mM 20 #[.val (.ref a), .val (.int z)] [(.int z), (.ref a)])) tT
    exact kK
  obtain ⟨T35_, h35_, k35_, X35_, e35_, E35_, A35_, st35_⟩ := newP X27_ hx hZ (hw _ (List.mem_of_getElem? (i := 16) rfl)) e27_ (g := (mkF mM 20 #[.val (.ref a), .val (.int z)] [(.int z), (.ref a)])) rfl (Jvm.hb hby own_d1_20) rfl (own_zn hz) (cap := 4) (own_zc hz) (by decide) (by decide) (by decide)
  obtain ⟨b35_, g35_⟩ : ∃ z, z = h27_.size := ⟨_, rfl⟩
  rw [← g35_] at A35_ st35_
  have sz_b35_ : h0.size ≤ b35_ := Nat.le_trans K27_.1 (Nat.le_of_eq g35_.symm)
  have ge_b35_ : n0 ≤ b35_ := Nat.le_trans Z0 sz_b35_
  have ne36_ : a ≠ b35_ := Nat.ne_of_lt (Nat.lt_of_lt_of_le fc28_.lt (Nat.le_of_eq g35_.symm))
  have ne37_ : b2_ ≠ b35_ := Nat.ne_of_lt (Nat.lt_of_lt_of_le fc33_.lt (Nat.le_of_eq g35_.symm))
  have ne38_ : b17_ ≠ b35_ := Nat.ne_of_lt (Nat.lt_of_lt_of_le fc34_.lt (Nat.le_of_eq g35_.symm))
  have fc39_ := fc28_.ext E35_
  have fc40_ := fc29_.ext E35_
  have fc41_ := Fw27_.ext E35_
  have fc42_ := fc30_.ext E35_
  have fc43_ := fc31_.ext E35_
  have fc44_ := fc32_.ext E35_
  have fc45_ := fc33_.ext E35_
  have fc46_ := fc34_.ext E35_
  have K35_ := K27_.ext E35_
  have V35_ : own_T Z h35_ b35_ .int z (fun _ => (0 : Int32)) := own_T.new A35_ (own_zn hz) rfl
  refine own_fin st35_ ?_
  show own_Fin pP eE below _ (T35_.setTop (mkF mM 22 #[.val (.ref a), .val (.int z)] [(.ref b35_), (.ref a)]))
  obtain ⟨T47_, h47_, X47_, e47_, W47_, st47_⟩ := putF X35_ hx hZ hown (host := "") (Or.inl (hw _ (List.mem_of_getElem? (i := 17) rfl))) Via.refl e35_ fc42_ fc39_ (Or.inr ⟨(hw _ (List.mem_of_getElem? (i := 18) rfl)), rfl, hnm⟩) (hw _ (List.mem_of_getElem? (i := 3) rfl)) (ty := (.array .int)) (by decide) rfl rfl (g := (mkF mM 22 #[.val (.ref a), .val (.int z)] [(.ref b35_), (.ref a)])) rfl rfl (Jvm.hb hby own_d1_22)
  have Fw47_ := fc42_.same W47_
  have fc48_ := fc39_.wr W47_
  have fc49_ := fc40_.other W47_ (Or.inr (slot_ne (Or.inr (hw _ (List.mem_of_getElem? (i := 13) rfl))) (Or.inr (hw _ (List.mem_of_getElem? (i := 18) rfl))) (by decide) (t := (.array .double)) (t' := (.array .int)) (by decide) (by decide)))
  have fc50_ := fc41_.other W47_ (Or.inr (slot_ne (Or.inr (hw _ (List.mem_of_getElem? (i := 15) rfl))) (Or.inr (hw _ (List.mem_of_getElem? (i := 18) rfl))) (by decide) (t := (.array .double)) (t' := (.array .int)) (by decide) (by decide)))
  have fc51_ := fc43_.other W47_ (Or.inr (slot_ne (Or.inr (hw _ (List.mem_of_getElem? (i := 21) rfl))) (Or.inr (hw _ (List.mem_of_getElem? (i := 18) rfl))) (by decide) (t := (.array .boolean)) (t' := (.array .int)) (by decide) (by decide)))
  have fc52_ := fc44_.other W47_ (Or.inr (slot_ne (Or.inl (hw _ (List.mem_of_getElem? (i := 28) rfl))) (Or.inr (hw _ (List.mem_of_getElem? (i := 18) rfl))) (by decide) (t := .int) (t' := (.array .int)) (by decide) (by decide)))
  have fc53_ := fc45_.other W47_ (Ne.symm ne3_)
  have fc54_ := fc46_.other W47_ (Ne.symm ne18_)
  have fc55_ := V35_.other W47_ (Ne.symm ne36_)
  have K47_ := K35_.wr W47_ (Or.inl (List.mem_of_getElem? (i := 0) rfl))
  have N47_ := Fr.snoc X47_ N27_ ga
  refine own_fin st47_ ?_
  show own_Fin pP eE below _ (T47_.setTop (mkF mM 25 #[.val (.ref a), .val (.int z)] []))
  refine own_fin (b := T47_.setTop (mkF mM 27 #[.val (.ref a), .val (.int z)] [(.int z), (.ref a)])) (fun tT kK => ?_) ?_
  · show Steps pP.tables eE below (T47_.setTop (mkF mM 25 #[.val (.ref a), .val (.int z)] [])) tT
    refine XS.aloadN X47_.here hx rfl (Jvm.hb hby own_d1_25) rfl rfl ?_
    show Steps pP.tables eE below (T47_.setTop (mkF mM 26 #[.val (.ref a), .val (.int z)] [(.ref a)])) tT
    refine XS.iloadN X47_.here hx rfl (Jvm.hb hby own_d1_26) rfl ?_
    show Steps pP.tables eE below (T47_.setTop (mkF mM 27 #[.val (.ref a), .val (.int z)] [(.int z), (.ref a)])) tT
    exact kK
  obtain ⟨T56_, h56_, k56_, X56_, e56_, E56_, A56_, st56_⟩ := newP X47_ hx hZ (hw _ (List.mem_of_getElem? (i := 19) rfl)) e47_ (g := (mkF mM 27 #[.val (.ref a), .val (.int z)] [(.int z), (.ref a)])) rfl (Jvm.hb hby own_d1_27) rfl (own_zn hz) (cap := 4) (own_zc hz) (by decide) (by decide) (by decide)
  obtain ⟨b56_, g56_⟩ : ∃ z, z = h47_.size := ⟨_, rfl⟩
  rw [← g56_] at A56_ st56_
  have sz_b56_ : h0.size ≤ b56_ := Nat.le_trans K47_.1 (Nat.le_of_eq g56_.symm)
  have ge_b56_ : n0 ≤ b56_ := Nat.le_trans Z0 sz_b56_
  have ne57_ : a ≠ b56_ := Nat.ne_of_lt (Nat.lt_of_lt_of_le fc48_.lt (Nat.le_of_eq g56_.symm))
  have ne58_ : b2_ ≠ b56_ := Nat.ne_of_lt (Nat.lt_of_lt_of_le fc53_.lt (Nat.le_of_eq g56_.symm))
  have ne59_ : b17_ ≠ b56_ := Nat.ne_of_lt (Nat.lt_of_lt_of_le fc54_.lt (Nat.le_of_eq g56_.symm))
  have ne60_ : b35_ ≠ b56_ := Nat.ne_of_lt (Nat.lt_of_lt_of_le fc55_.lt (Nat.le_of_eq g56_.symm))
  have fc61_ := fc48_.ext E56_
  have fc62_ := fc49_.ext E56_
  have fc63_ := fc50_.ext E56_
  have fc64_ := Fw47_.ext E56_
  have fc65_ := fc51_.ext E56_
  have fc66_ := fc52_.ext E56_
  have fc67_ := fc53_.ext E56_
  have fc68_ := fc54_.ext E56_
  have fc69_ := fc55_.ext E56_
  have K56_ := K47_.ext E56_
  have V56_ : own_T Z h56_ b56_ .boolean z (fun _ => (0 : Int32)) := own_T.new A56_ (own_zn hz) rfl
  refine own_fin st56_ ?_
  show own_Fin pP eE below _ (T56_.setTop (mkF mM 29 #[.val (.ref a), .val (.int z)] [(.ref b56_), (.ref a)]))
  obtain ⟨T70_, h70_, X70_, e70_, W70_, st70_⟩ := putF X56_ hx hZ hown (host := "") (Or.inl (hw _ (List.mem_of_getElem? (i := 20) rfl))) Via.refl e56_ fc65_ fc61_ (Or.inr ⟨(hw _ (List.mem_of_getElem? (i := 21) rfl)), rfl, hnm⟩) (hw _ (List.mem_of_getElem? (i := 3) rfl)) (ty := (.array .boolean)) (by decide) rfl rfl (g := (mkF mM 29 #[.val (.ref a), .val (.int z)] [(.ref b56_), (.ref a)])) rfl rfl (Jvm.hb hby own_d1_29)
  have Fw70_ := fc65_.same W70_
  have fc71_ := fc61_.wr W70_
  have fc72_ := fc62_.other W70_ (Or.inr (slot_ne (Or.inr (hw _ (List.mem_of_getElem? (i := 13) rfl))) (Or.inr (hw _ (List.mem_of_getElem? (i := 21) rfl))) (by decide) (t := (.array .double)) (t' := (.array .boolean)) (by decide) (by decide)))
  have fc73_ := fc63_.other W70_ (Or.inr (slot_ne (Or.inr (hw _ (List.mem_of_getElem? (i := 15) rfl))) (Or.inr (hw _ (List.mem_of_getElem? (i := 21) rfl))) (by decide) (t := (.array .double)) (t' := (.array .boolean)) (by decide) (by decide)))
  have fc74_ := fc64_.other W70_ (Or.inr (slot_ne (Or.inr (hw _ (List.mem_of_getElem? (i := 18) rfl))) (Or.inr (hw _ (List.mem_of_getElem? (i := 21) rfl))) (by decide) (t := (.array .int)) (t' := (.array .boolean)) (by decide) (by decide)))
  have fc75_ := fc66_.other W70_ (Or.inr (slot_ne (Or.inl (hw _ (List.mem_of_getElem? (i := 28) rfl))) (Or.inr (hw _ (List.mem_of_getElem? (i := 21) rfl))) (by decide) (t := .int) (t' := (.array .boolean)) (by decide) (by decide)))
  have fc76_ := fc67_.other W70_ (Ne.symm ne3_)
  have fc77_ := fc68_.other W70_ (Ne.symm ne18_)
  have fc78_ := fc69_.other W70_ (Ne.symm ne36_)
  have fc79_ := V56_.other W70_ (Ne.symm ne57_)
  have K70_ := K56_.wr W70_ (Or.inl (List.mem_of_getElem? (i := 0) rfl))
  have N70_ := Fr.snoc X70_ N47_ ga
  refine own_fin st70_ ?_
  show own_Fin pP eE below _ (T70_.setTop (mkF mM 32 #[.val (.ref a), .val (.int z)] []))
  obtain ⟨fs, hr, hrun, hended, hW, hsame⟩ := X70_.leave (v := none) (fun _ => rfl)
  refine ⟨_, _, ?_, hrun, hended, _, _, rfl, ?_, ⟨_, rfl⟩, hW, hsame.mono (by decide) (by decide)⟩
  · show Steps pP.tables eE below (T70_.setTop (mkF mM 32 #[.val (.ref a), .val (.int z)] [])) _
    exact X70_.returnOut hx Bd.returns (Jvm.hb hby own_d1_32) hr
  · show Q_rm_init Z a z h0 n0 _ T70_.heap _
    rw [e70_]
    exact ⟨b2_, b17_, b35_, b56_, rfl, N70_, K70_, sz_b2_, sz_b17_, sz_b35_, sz_b56_, ne19_, ne37_, ne58_, ne38_, ne59_, ne60_, fc71_, fc72_, fc73_, fc74_, Fw70_, fc75_, fc76_, fc77_, fc78_, fc79_⟩
theorem own_d3_0 : decode prog_88_method_2_code 0 = .ok (.aload_n 0, 1) := by decide +kernel
theorem own_d3_1 : decode prog_88_method_2_code 1 = .ok (.getfield 20, 3) := by decide +kernel
theorem own_d3_4 : decode prog_88_method_2_code 4 = .ok (.iload_n 1, 1) := by decide +kernel
theorem own_d3_5 : decode prog_88_method_2_code 5 = .ok (.baload, 1) := by decide +kernel
theorem own_d3_6 : decode prog_88_method_2_code 6 = .ok (.ifCond .ne 27, 3) := by decide +kernel
theorem own_d3_9 : decode prog_88_method_2_code 9 = .ok (.aload_n 0, 1) := by decide +kernel
theorem own_d3_10 : decode prog_88_method_2_code 10 = .ok (.getfield 20, 3) := by decide +kernel
theorem own_d3_13 : decode prog_88_method_2_code 13 = .ok (.iload_n 1, 1) := by decide +kernel
theorem own_d3_14 : decode prog_88_method_2_code 14 = .ok (.iconst 1, 1) := by decide +kernel
theorem own_d3_15 : decode prog_88_method_2_code 15 = .ok (.bastore, 1) := by decide +kernel
theorem own_d3_16 : decode prog_88_method_2_code 16 = .ok (.aload_n 0, 1) := by decide +kernel
theorem own_d3_17 : decode prog_88_method_2_code 17 = .ok (.getfield 16, 3) := by decide +kernel
theorem own_d3_20 : decode prog_88_method_2_code 20 = .ok (.aload_n 0, 1) := by decide +kernel
theorem own_d3_21 : decode prog_88_method_2_code 21 = .ok (.dup, 1) := by decide +kernel
theorem own_d3_22 : decode prog_88_method_2_code 22 = .ok (.getfield 24, 3) := by decide +kernel
theorem own_d3_25 : decode prog_88_method_2_code 25 = .ok (.dup_x1, 1) := by decide +kernel
theorem own_d3_26 : decode prog_88_method_2_code 26 = .ok (.iconst 1, 1) := by decide +kernel
theorem own_d3_27 : decode prog_88_method_2_code 27 = .ok (.iadd, 1) := by decide +kernel
theorem own_d3_28 : decode prog_88_method_2_code 28 = .ok (.putfield 24, 3) := by decide +kernel
theorem own_d3_31 : decode prog_88_method_2_code 31 = .ok (.iload_n 1, 1) := by decide +kernel
theorem own_d3_32 : decode prog_88_method_2_code 32 = .ok (.iastore, 1) := by decide +kernel
theorem own_d3_33 : decode prog_88_method_2_code 33 = .ok (.aload_n 0, 1) := by decide +kernel
theorem own_d3_34 : decode prog_88_method_2_code 34 = .ok (.getfield 7, 3) := by decide +kernel
theorem own_d3_37 : decode prog_88_method_2_code 37 = .ok (.iload_n 1, 1) := by decide +kernel
theorem own_d3_38 : decode prog_88_method_2_code 38 = .ok (.dup2, 1) := by decide +kernel
theorem own_d3_39 : decode prog_88_method_2_code 39 = .ok (.daload, 1) := by decide +kernel
theorem own_d3_40 : decode prog_88_method_2_code 40 = .ok (.dload_n 2, 1) := by decide +kernel
theorem own_d3_41 : decode prog_88_method_2_code 41 = .ok (.dadd, 1) := by decide +kernel
theorem own_d3_42 : decode prog_88_method_2_code 42 = .ok (.dastore, 1) := by decide +kernel
theorem own_d3_43 : decode prog_88_method_2_code 43 = .ok (.aload_n 0, 1) := by decide +kernel
theorem own_d3_44 : decode prog_88_method_2_code 44 = .ok (.getfield 13, 3) := by decide +kernel
theorem own_d3_47 : decode prog_88_method_2_code 47 = .ok (.iload_n 1, 1) := by decide +kernel
theorem own_d3_48 : decode prog_88_method_2_code 48 = .ok (.dup2, 1) := by decide +kernel
theorem own_d3_49 : decode prog_88_method_2_code 49 = .ok (.daload, 1) := by decide +kernel
theorem own_d3_50 : decode prog_88_method_2_code 50 = .ok (.dload_n 2, 1) := by decide +kernel
theorem own_d3_51 : decode prog_88_method_2_code 51 = .ok (.invokestatic 28, 3) := by decide +kernel
theorem own_pd0 : parseMethodDescriptor "(D)D" = some ⟨[.double], some .double⟩ := by decide +kernel
theorem own_d3_54 : decode prog_88_method_2_code 54 = .ok (.dadd, 1) := by decide +kernel
theorem own_d3_55 : decode prog_88_method_2_code 55 = .ok (.dastore, 1) := by decide +kernel
theorem own_d3_56 : decode prog_88_method_2_code 56 = .ok (.return_, 1) := by decide +kernel
theorem own_ef_rm_add1 (mM : MethodId) (x0 : Addr) (x1 : Int32) (x2 : UInt64) : entryFrame mM #[(.ref x0), (.int x1), (.double x2)] 4 = mkF mM 0 #[.val (.ref x0), .val (.int x1), .val (.double x2), .second] [] := by first | (simp [entryFrame, mkF, argsToLocals, Value.category]; done) | rfl
def Q_rm_add1 (Z : State) (a : Addr) (v : Addr) (g : Addr) (s : Addr) (b : Addr) (z : Int32) (i : Int32) (x : UInt64) (c : Int32) (y : UInt64) (w : UInt64) (vf : Int32 → UInt64) (gf : Int32 → UInt64) (sf : Int32 → Int32) (bf : Int32 → Int32) (h0 : Heap) (n0 : Nat) (vV : Option Value) (hH : Heap) (lA : List Loc) : Prop := vV = none ∧ Fr n0 lA ∧ (Keep h0 hH [a, v, g, s, b]) ∧ (Exa Z hH a "com/example/chains_to_rank/chainstorank/ranker/Scores") ∧ (Fld Z hH a "com/example/chains_to_rank/chainstorank/ranker/Scores" "values" "[D" (.ref v)) ∧ (Fld Z hH a "com/example/chains_to_rank/chainstorank/ranker/Scores" "magnitudes" "[D" (.ref g)) ∧ (Fld Z hH a "com/example/chains_to_rank/chainstorank/ranker/Scores" "scored" "[I" (.ref s)) ∧ (Fld Z hH a "com/example/chains_to_rank/chainstorank/ranker/Scores" "isScored" "[Z" (.ref b)) ∧ (Fld Z hH a "com/example/chains_to_rank/chainstorank/ranker/Scores" "scoredCount" "I" (.int (c + (1 : Int32)))) ∧ (own_TD Z hH v z (own_upD vf i y)) ∧ (own_TD Z hH g z (own_upD gf i w)) ∧ (own_T Z hH s .int z (own_up sf c i)) ∧ (own_T Z hH b .boolean z (own_up bf i (1 : Int32)))
set_option maxRecDepth 65536 in
set_option maxHeartbeats 40000000 in
theorem rm_add1 (lL : Launch) (Z : State) (a0 : Array Value) (hw : ∀ d ∈ tables_1, d.before a0 Z = true) (ws : List Jvm.Cond) (a : Addr) (v : Addr) (g : Addr) (s : Addr) (b : Addr) (z : Int32) (i : Int32) (x : UInt64) (c : Int32) (y : UInt64) (w : UInt64) (vf : Int32 → UInt64) (gf : Int32 → UInt64) (sf : Int32 → Int32) (bf : Int32 → Int32) (h0 : Heap) (n0 : Nat) (Z0 : n0 ≤ h0.size) (Ea : Exa Z h0 a "com/example/chains_to_rank/chainstorank/ranker/Scores") (F0 : Fld Z h0 a "com/example/chains_to_rank/chainstorank/ranker/Scores" "values" "[D" (.ref v)) (F1 : Fld Z h0 a "com/example/chains_to_rank/chainstorank/ranker/Scores" "magnitudes" "[D" (.ref g)) (F2 : Fld Z h0 a "com/example/chains_to_rank/chainstorank/ranker/Scores" "scored" "[I" (.ref s)) (F3 : Fld Z h0 a "com/example/chains_to_rank/chainstorank/ranker/Scores" "isScored" "[Z" (.ref b)) (Fc : Fld Z h0 a "com/example/chains_to_rank/chainstorank/ranker/Scores" "scoredCount" "I" (.int c)) (T0 : own_TD Z h0 v z vf) (T1 : own_TD Z h0 g z gf) (T2 : own_T Z h0 s .int z sf) (T3 : own_T Z h0 b .boolean z bf) (ga : n0 ≤ a) (gv : n0 ≤ v) (gg : n0 ≤ g) (gs : n0 ≤ s) (gb : n0 ≤ b) (nvg : v ≠ g) (nvs : v ≠ s) (nvb : v ≠ b) (ngs : g ≠ s) (ngb : g ≠ b) (nsb : s ≠ b) (nav : v ≠ a) (nag : g ≠ a) (nas : s ≠ a) (nab : b ≠ a) (hi : ¬ i < 0 ∧ i < z) (hx1 : NoNaN64 x) (hy : FP.dadd (vf i) x = y) (hyn : NoNaN64 y) (hw1 : FP.dadd (gf i) (own_ab x) = w) (hwn : NoNaN64 w) (hc : ¬ c < 0 ∧ c < z) (hb : bf i = (0 : Int32)) :
    MetFree lL (⟨"com/example/chains_to_rank/chainstorank/ranker/Scores", "add", "(ID)V"⟩ : MethodName) (head1 (Jvm.Cond.code (⟨"com/example/chains_to_rank/chainstorank/ranker/Scores", "add", "(ID)V"⟩ : MethodName) prog_88_method_2_code 4 none :: ws) ({ frames := 1, cells := 0, slots := 0, locals := 17 } : Room)) (fun aA uU => aA = #[(.ref a), (.int i), (.double x)] ∧ Z.Warmed39 uU.vm ∧ uU.heap = h0) (fun _ _ _ _ _ => True) (fun _ uU oO uU' => ∃ vV lA, oO = .returned vV ∧ Q_rm_add1 Z a v g s b z i x c y w vf gf sf bf h0 n0 vV uU'.heap lA ∧ FrameEnd uU oO uU' lA ({ frames := 1, cells := 0, slots := 0, locals := 17 } : Room).cells ({ frames := 1, cells := 0, slots := 0, locals := 17 } : Room).slots) := by
  refine MetFree.of_bodySF (plainFor_of_name own_pn_com_example_chains_to_rank_chainstorank_ranker_Scores) hisR ?_
  intro pP eE sS mM args below meth cC s₁ Bd hml0 hP hK
  obtain ⟨rfl, hZ, hh⟩ := hP
  have hx := Bd.exec
  have hby := Bd.bytes
  have hml : cC.maxLocals = 4 := hml0
  have hown : sS.vm.findClass "com/example/chains_to_rank/chainstorank/ranker/Scores" = some mM.cls := findClass_of_methodNamed Bd.named
  have hnm := (name_of_methodNamed Bd.named Bd.method).1
  have X0 : Stand pP lL eE ({ frames := 1, cells := 0, slots := 0, locals := 17 } : Room) sS mM #[(.ref a), (.int i), (.double x)] below meth cC s₁ [] 0 0 := Stand.of_body Bd
  have e0 : s₁.heap = h0 := by rw [← hh, Bd.state]; rfl
  have N0 := Fr.nil n0
  have K0 := Keep.refl h0 [a, v, g, s, b]
  show own_Fin pP eE below (fun tT oO => ∃ vV lA, oO = .returned vV ∧ Q_rm_add1 Z a v g s b z i x c y w vf gf sf bf h0 n0 vV tT.heap lA ∧ FrameEnd sS oO tT lA ({ frames := 1, cells := 0, slots := 0, locals := 17 } : Room).cells ({ frames := 1, cells := 0, slots := 0, locals := 17 } : Room).slots) (s₁.setTop (entryFrame mM #[(.ref a), (.int i), (.double x)] 4))
  refine own_fin (b := s₁.setTop (mkF mM 0 #[.val (.ref a), .val (.int i), .val (.double x), .second] [])) (fun tT kK => castTop (own_ef_rm_add1 mM a i x) kK) ?_
  refine own_fin (b := s₁.setTop (mkF mM 1 #[.val (.ref a), .val (.int i), .val (.double x), .second] [(.ref a)])) (fun tT kK => ?_) ?_
  · show Steps pP.tables eE below (s₁.setTop (mkF mM 0 #[.val (.ref a), .val (.int i), .val (.double x), .second] [])) tT
    refine XS.aloadN X0.here hx rfl (Jvm.hb hby own_d3_0) rfl rfl ?_
    show Steps pP.tables eE below (s₁.setTop (mkF mM 1 #[.val (.ref a), .val (.int i), .val (.double x), .second] [(.ref a)])) tT
    exact kK
  obtain ⟨T1_, X1_, e1_, st1_⟩ := getF X0 hx hZ hown (host := "") (Or.inl (hw _ (List.mem_of_getElem? (i := 20) rfl))) Via.refl e0 F3 (g := (mkF mM 1 #[.val (.ref a), .val (.int i), .val (.double x), .second] [(.ref a)])) rfl rfl (Jvm.hb hby own_d3_1)
  refine own_fin st1_ ?_
  show own_Fin pP eE below _ (T1_.setTop (mkF mM 4 #[.val (.ref a), .val (.int i), .val (.double x), .second] [(.ref b)]))
  refine own_fin (b := T1_.setTop (mkF mM 5 #[.val (.ref a), .val (.int i), .val (.double x), .second] [(.int i), (.ref b)])) (fun tT kK => ?_) ?_
  · show Steps pP.tables eE below (T1_.setTop (mkF mM 4 #[.val (.ref a), .val (.int i), .val (.double x), .second] [(.ref b)])) tT
    refine XS.iloadN X1_.here hx rfl (Jvm.hb hby own_d3_4) rfl ?_
    show Steps pP.tables eE below (T1_.setTop (mkF mM 5 #[.val (.ref a), .val (.int i), .val (.double x), .second] [(.int i), (.ref b)])) tT
    exact kK
  obtain ⟨cl2_, Ar2_, Sz2_, Nn2_, Hh2_⟩ := id T3
  have hin2_ : ¬ (i < 0 ∨ cl2_.slots.size ≤ (i).toNatClampNeg) := inb_of Sz2_ hi
  have hat2_ : cl2_.slots[(i).toNatClampNeg]? = some (.int (bf i)) := Hh2_ _ hin2_
  refine own_fin (b := T1_.setTop (mkF mM 10 #[.val (.ref a), .val (.int i), .val (.double x), .second] [(.ref a)])) (fun tT kK => ?_) ?_
  · show Steps pP.tables eE below (T1_.setTop (mkF mM 5 #[.val (.ref a), .val (.int i), .val (.double x), .second] [(.int i), (.ref b)])) tT
    refine X1_.baloadBooleans hx (j := i) (v := (.int (bf i))) (own_rw e1_ Ar2_.1) (State.isArrayOf_alike hZ.alike Ar2_.2.1) Ar2_.2.2 hin2_ hat2_ (g := (mkF mM 5 #[.val (.ref a), .val (.int i), .val (.double x), .second] [(.int i), (.ref b)])) rfl rfl (Jvm.hb hby own_d3_5) _ ?_
    show Steps pP.tables eE below (T1_.setTop (mkF mM 6 #[.val (.ref a), .val (.int i), .val (.double x), .second] [(.int (bf i))])) tT
    refine XS.ifNo X1_.here hx rfl (Jvm.hb hby own_d3_6) rfl ((if0 _ _).trans (teq (hb : (bf i) = (0 : Int32))).2) ?_
    show Steps pP.tables eE below (T1_.setTop (mkF mM 9 #[.val (.ref a), .val (.int i), .val (.double x), .second] [])) tT
    refine XS.aloadN X1_.here hx rfl (Jvm.hb hby own_d3_9) rfl rfl ?_
    show Steps pP.tables eE below (T1_.setTop (mkF mM 10 #[.val (.ref a), .val (.int i), .val (.double x), .second] [(.ref a)])) tT
    exact kK
  obtain ⟨T3_, X3_, e3_, st3_⟩ := getF X1_ hx hZ hown (host := "") (Or.inl (hw _ (List.mem_of_getElem? (i := 20) rfl))) Via.refl e1_ F3 (g := (mkF mM 10 #[.val (.ref a), .val (.int i), .val (.double x), .second] [(.ref a)])) rfl rfl (Jvm.hb hby own_d3_10)
  refine own_fin st3_ ?_
  show own_Fin pP eE below _ (T3_.setTop (mkF mM 13 #[.val (.ref a), .val (.int i), .val (.double x), .second] [(.ref b)]))
  refine own_fin (b := T3_.setTop (mkF mM 15 #[.val (.ref a), .val (.int i), .val (.double x), .second] [(.int (1 : Int32)), (.int i), (.ref b)])) (fun tT kK => ?_) ?_
  · show Steps pP.tables eE below (T3_.setTop (mkF mM 13 #[.val (.ref a), .val (.int i), .val (.double x), .second] [(.ref b)])) tT
    refine XS.iloadN X3_.here hx rfl (Jvm.hb hby own_d3_13) rfl ?_
    show Steps pP.tables eE below (T3_.setTop (mkF mM 14 #[.val (.ref a), .val (.int i), .val (.double x), .second] [(.int i), (.ref b)])) tT
    refine XS.iconst X3_.here hx rfl (Jvm.hb hby own_d3_14) ?_
    show Steps pP.tables eE below (T3_.setTop (mkF mM 15 #[.val (.ref a), .val (.int i), .val (.double x), .second] [(.int (1 : Int32)), (.int i), (.ref b)])) tT
    exact kK
  obtain ⟨cl4_, Ar4_, Sz4_, Nn4_, Hh4_⟩ := id T3
  have hin4_ : ¬ (i < 0 ∨ cl4_.slots.size ≤ (i).toNatClampNeg) := inb_of Sz4_ hi
  obtain ⟨T4_, h4_, X4_, e4_, W4_, st4_⟩ := stZ X3_ hx hZ e3_ Ar4_ (j := i) hin4_ (g := (mkF mM 15 #[.val (.ref a), .val (.int i), .val (.double x), .second] [(.int (1 : Int32)), (.int i), (.ref b)])) rfl rfl (Jvm.hb hby own_d3_15)
  have U4_ : own_T Z h4_ b .boolean z (own_up bf i (nar .boolean (1 : Int32))) := own_T.set ⟨cl4_, Ar4_, Sz4_, Nn4_, Hh4_⟩ W4_ hi
  have fc5_ := Ea.wr W4_
  have fc6_ := F0.other W4_ (Or.inl (Ne.symm nab))
  have fc7_ := F1.other W4_ (Or.inl (Ne.symm nab))
  have fc8_ := F2.other W4_ (Or.inl (Ne.symm nab))
  have fc9_ := F3.other W4_ (Or.inl (Ne.symm nab))
  have fc10_ := Fc.other W4_ (Or.inl (Ne.symm nab))
  have fc11_ := T0.other W4_ nvb
  have fc12_ := T1.other W4_ ngb
  have fc13_ := T2.other W4_ nsb
  have K4_ := K0.wr W4_ (Or.inl (List.mem_of_getElem? (i := 4) rfl))
  have N4_ := Fr.snoc X4_ N0 gb
  refine own_fin st4_ ?_
  show own_Fin pP eE below _ (T4_.setTop (mkF mM 16 #[.val (.ref a), .val (.int i), .val (.double x), .second] []))
  refine own_fin (b := T4_.setTop (mkF mM 17 #[.val (.ref a), .val (.int i), .val (.double x), .second] [(.ref a)])) (fun tT kK => ?_) ?_
  · show Steps pP.tables eE below (T4_.setTop (mkF mM 16 #[.val (.ref a), .val (.int i), .val (.double x), .second] [])) tT
    refine XS.aloadN X4_.here hx rfl (Jvm.hb hby own_d3_16) rfl rfl ?_
    show Steps pP.tables eE below (T4_.setTop (mkF mM 17 #[.val (.ref a), .val (.int i), .val (.double x), .second] [(.ref a)])) tT
    exact kK
  obtain ⟨T14_, X14_, e14_, st14_⟩ := getF X4_ hx hZ hown (host := "") (Or.inl (hw _ (List.mem_of_getElem? (i := 17) rfl))) Via.refl e4_ fc8_ (g := (mkF mM 17 #[.val (.ref a), .val (.int i), .val (.double x), .second] [(.ref a)])) rfl rfl (Jvm.hb hby own_d3_17)
  refine own_fin st14_ ?_
  show own_Fin pP eE below _ (T14_.setTop (mkF mM 20 #[.val (.ref a), .val (.int i), .val (.double x), .second] [(.ref s)]))
  refine own_fin (b := T14_.setTop (mkF mM 22 #[.val (.ref a), .val (.int i), .val (.double x), .second] [(.ref a), (.ref a), (.ref s)])) (fun tT kK => ?_) ?_
  · show Steps pP.tables eE below (T14_.setTop (mkF mM 20 #[.val (.ref a), .val (.int i), .val (.double x), .second] [(.ref s)])) tT
    refine XS.aloadN X14_.here hx rfl (Jvm.hb hby own_d3_20) rfl rfl ?_
    show Steps pP.tables eE below (T14_.setTop (mkF mM 21 #[.val (.ref a), .val (.int i), .val (.double x), .second] [(.ref a), (.ref s)])) tT
    refine XS.dup X14_.here hx rfl (Jvm.hb hby own_d3_21) rfl rfl ?_
    show Steps pP.tables eE below (T14_.setTop (mkF mM 22 #[.val (.ref a), .val (.int i), .val (.double x), .second] [(.ref a), (.ref a), (.ref s)])) tT
    exact kK
  obtain ⟨T15_, X15_, e15_, st15_⟩ := getF X14_ hx hZ hown (host := "") (Or.inl (hw _ (List.mem_of_getElem? (i := 27) rfl))) Via.refl e14_ fc10_ (g := (mkF mM 22 #[.val (.ref a), .val (.int i), .val (.double x), .second] [(.ref a), (.ref a), (.ref s)])) rfl rfl (Jvm.hb hby own_d3_22)
  refine own_fin st15_ ?_
  show own_Fin pP eE below _ (T15_.setTop (mkF mM 25 #[.val (.ref a), .val (.int i), .val (.double x), .second] [(.int c), (.ref a), (.ref s)]))
  refine own_fin (b := T15_.setTop (mkF mM 28 #[.val (.ref a), .val (.int i), .val (.double x), .second] [(.int (c + (1 : Int32))), (.ref a), (.int c), (.ref s)])) (fun tT kK => ?_) ?_
  · show Steps pP.tables eE below (T15_.setTop (mkF mM 25 #[.val (.ref a), .val (.int i), .val (.double x), .second] [(.int c), (.ref a), (.ref s)])) tT
    refine XS.dupX1 X15_.here hx rfl (Jvm.hb hby own_d3_25) rfl rfl rfl ?_
    show Steps pP.tables eE below (T15_.setTop (mkF mM 26 #[.val (.ref a), .val (.int i), .val (.double x), .second] [(.int c), (.ref a), (.int c), (.ref s)])) tT
    refine XS.iconst X15_.here hx rfl (Jvm.hb hby own_d3_26) ?_
    show Steps pP.tables eE below (T15_.setTop (mkF mM 27 #[.val (.ref a), .val (.int i), .val (.double x), .second] [(.int (1 : Int32)), (.int c), (.ref a), (.int c), (.ref s)])) tT
    refine XS.iadd X15_.here hx rfl (Jvm.hb hby own_d3_27) rfl ?_
    show Steps pP.tables eE below (T15_.setTop (mkF mM 28 #[.val (.ref a), .val (.int i), .val (.double x), .second] [(.int (c + (1 : Int32))), (.ref a), (.int c), (.ref s)])) tT
    exact kK
  obtain ⟨T16_, h16_, X16_, e16_, W16_, st16_⟩ := putF X15_ hx hZ hown (host := "") (Or.inl (hw _ (List.mem_of_getElem? (i := 27) rfl))) Via.refl e15_ fc10_ fc5_ (Or.inl (hw _ (List.mem_of_getElem? (i := 28) rfl))) (hw _ (List.mem_of_getElem? (i := 3) rfl)) (ty := .int) (by decide) rfl rfl (g := (mkF mM 28 #[.val (.ref a), .val (.int i), .val (.double x), .second] [(.int (c + (1 : Int32))), (.ref a), (.int c), (.ref s)])) rfl rfl (Jvm.hb hby own_d3_28)
  have Fw16_ := fc10_.same W16_
  have fc17_ := fc5_.wr W16_
  have fc18_ := fc6_.other W16_ (Or.inr (slot_ne (Or.inr (hw _ (List.mem_of_getElem? (i := 13) rfl))) (Or.inl (hw _ (List.mem_of_getElem? (i := 28) rfl))) (by decide) (t := (.array .double)) (t' := .int) (by decide) (by decide)))
  have fc19_ := fc7_.other W16_ (Or.inr (slot_ne (Or.inr (hw _ (List.mem_of_getElem? (i := 15) rfl))) (Or.inl (hw _ (List.mem_of_getElem? (i := 28) rfl))) (by decide) (t := (.array .double)) (t' := .int) (by decide) (by decide)))
  have fc20_ := fc8_.other W16_ (Or.inr (slot_ne (Or.inr (hw _ (List.mem_of_getElem? (i := 18) rfl))) (Or.inl (hw _ (List.mem_of_getElem? (i := 28) rfl))) (by decide) (t := (.array .int)) (t' := .int) (by decide) (by decide)))
  have fc21_ := fc9_.other W16_ (Or.inr (slot_ne (Or.inr (hw _ (List.mem_of_getElem? (i := 21) rfl))) (Or.inl (hw _ (List.mem_of_getElem? (i := 28) rfl))) (by decide) (t := (.array .boolean)) (t' := .int) (by decide) (by decide)))
  have fc22_ := fc11_.other W16_ nav
  have fc23_ := fc12_.other W16_ nag
  have fc24_ := fc13_.other W16_ nas
  have fc25_ := U4_.other W16_ nab
  have K16_ := K4_.wr W16_ (Or.inl (List.mem_of_getElem? (i := 0) rfl))
  have N16_ := Fr.snoc X16_ N4_ ga
  refine own_fin st16_ ?_
  show own_Fin pP eE below _ (T16_.setTop (mkF mM 31 #[.val (.ref a), .val (.int i), .val (.double x), .second] [(.int c), (.ref s)]))
  refine own_fin (b := T16_.setTop (mkF mM 32 #[.val (.ref a), .val (.int i), .val (.double x), .second] [(.int i), (.int c), (.ref s)])) (fun tT kK => ?_) ?_
  · show Steps pP.tables eE below (T16_.setTop (mkF mM 31 #[.val (.ref a), .val (.int i), .val (.double x), .second] [(.int c), (.ref s)])) tT
    refine XS.iloadN X16_.here hx rfl (Jvm.hb hby own_d3_31) rfl ?_
    show Steps pP.tables eE below (T16_.setTop (mkF mM 32 #[.val (.ref a), .val (.int i), .val (.double x), .second] [(.int i), (.int c), (.ref s)])) tT
    exact kK
  obtain ⟨cl26_, Ar26_, Sz26_, Nn26_, Hh26_⟩ := id fc24_
  have hin26_ : ¬ (c < 0 ∨ cl26_.slots.size ≤ (c).toNatClampNeg) := inb_of Sz26_ hc
  obtain ⟨T26_, h26_, X26_, e26_, W26_, st26_⟩ := stI X16_ hx hZ e16_ Ar26_ (j := c) hin26_ (g := (mkF mM 32 #[.val (.ref a), .val (.int i), .val (.double x), .second] [(.int i), (.int c), (.ref s)])) rfl rfl (Jvm.hb hby own_d3_32)
  have U26_ : own_T Z h26_ s .int z (own_up sf c i) := own_T.set ⟨cl26_, Ar26_, Sz26_, Nn26_, Hh26_⟩ W26_ hc
  have fc27_ := fc17_.wr W26_
  have fc28_ := fc18_.other W26_ (Or.inl (Ne.symm nas))
  have fc29_ := fc19_.other W26_ (Or.inl (Ne.symm nas))
  have fc30_ := fc20_.other W26_ (Or.inl (Ne.symm nas))
  have fc31_ := fc21_.other W26_ (Or.inl (Ne.symm nas))
  have fc32_ := Fw16_.other W26_ (Or.inl (Ne.symm nas))
  have fc33_ := fc22_.other W26_ nvs
  have fc34_ := fc23_.other W26_ ngs
  have fc35_ := fc25_.other W26_ (Ne.symm nsb)
  have K26_ := K16_.wr W26_ (Or.inl (List.mem_of_getElem? (i := 3) rfl))
  have N26_ := Fr.snoc X26_ N16_ gs
  refine own_fin st26_ ?_
  show own_Fin pP eE below _ (T26_.setTop (mkF mM 33 #[.val (.ref a), .val (.int i), .val (.double x), .second] []))
  refine own_fin (b := T26_.setTop (mkF mM 34 #[.val (.ref a), .val (.int i), .val (.double x), .second] [(.ref a)])) (fun tT kK => ?_) ?_
  · show Steps pP.tables eE below (T26_.setTop (mkF mM 33 #[.val (.ref a), .val (.int i), .val (.double x), .second] [])) tT
    refine XS.aloadN X26_.here hx rfl (Jvm.hb hby own_d3_33) rfl rfl ?_
    show Steps pP.tables eE below (T26_.setTop (mkF mM 34 #[.val (.ref a), .val (.int i), .val (.double x), .second] [(.ref a)])) tT
    exact kK
  obtain ⟨T36_, X36_, e36_, st36_⟩ := getF X26_ hx hZ hown (host := "") (Or.inl (hw _ (List.mem_of_getElem? (i := 12) rfl))) Via.refl e26_ fc28_ (g := (mkF mM 34 #[.val (.ref a), .val (.int i), .val (.double x), .second] [(.ref a)])) rfl rfl (Jvm.hb hby own_d3_34)
  refine own_fin st36_ ?_
  show own_Fin pP eE below _ (T36_.setTop (mkF mM 37 #[.val (.ref a), .val (.int i), .val (.double x), .second] [(.ref v)]))
  refine own_fin (b := T36_.setTop (mkF mM 39 #[.val (.ref a), .val (.int i), .val (.double x), .second] [(.int i), (.ref v), (.int i), (.ref v)])) (fun tT kK => ?_) ?_
  · show Steps pP.tables eE below (T36_.setTop (mkF mM 37 #[.val (.ref a), .val (.int i), .val (.double x), .second] [(.ref v)])) tT
    refine XS.iloadN X36_.here hx rfl (Jvm.hb hby own_d3_37) rfl ?_
    show Steps pP.tables eE below (T36_.setTop (mkF mM 38 #[.val (.ref a), .val (.int i), .val (.double x), .second] [(.int i), (.ref v)])) tT
    jvm_step X36_.here [X36_.here.top, hx, (Jvm.hb hby own_d3_38), Value.category]
    show Steps pP.tables eE below (T36_.setTop (mkF mM 39 #[.val (.ref a), .val (.int i), .val (.double x), .second] [(.int i), (.ref v), (.int i), (.ref v)])) tT
    exact kK
  obtain ⟨cl37_, Ar37_, Sz37_, Nn37_, Hh37_⟩ := id fc33_
  have hin37_ : ¬ (i < 0 ∨ cl37_.slots.size ≤ (i).toNatClampNeg) := inb_of Sz37_ hi
  have hat37_ : cl37_.slots[(i).toNatClampNeg]? = some (.double (vf i)) := Hh37_ _ hin37_
  refine own_fin (b := T36_.setTop (mkF mM 42 #[.val (.ref a), .val (.int i), .val (.double x), .second] [(.double y), (.int i), (.ref v)])) (fun tT kK => ?_) ?_
  · show Steps pP.tables eE below (T36_.setTop (mkF mM 39 #[.val (.ref a), .val (.int i), .val (.double x), .second] [(.int i), (.ref v), (.int i), (.ref v)])) tT
    refine X36_.daload hx (j := i) (v := (.double (vf i))) (own_rw e36_ Ar37_.1) (State.isArrayOf_alike hZ.alike Ar37_.2.1) Ar37_.2.2 hin37_ hat37_ (g := (mkF mM 39 #[.val (.ref a), .val (.int i), .val (.double x), .second] [(.int i), (.ref v), (.int i), (.ref v)])) rfl rfl (Jvm.hb hby own_d3_39) _ ?_
    show Steps pP.tables eE below (T36_.setTop (mkF mM 40 #[.val (.ref a), .val (.int i), .val (.double x), .second] [(.double (vf i)), (.int i), (.ref v)])) tT
    refine XS.dloadN X36_.here hx rfl (Jvm.hb hby own_d3_40) rfl ?_
    show Steps pP.tables eE below (T36_.setTop (mkF mM 41 #[.val (.ref a), .val (.int i), .val (.double x), .second] [(.double x), (.double (vf i)), (.int i), (.ref v)])) tT
    refine XS.daddS X36_.here hx rfl (Jvm.hb hby own_d3_41) rfl (by rw [hy]; exact hyn) (v := y) hy ?_
    show Steps pP.tables eE below (T36_.setTop (mkF mM 42 #[.val (.ref a), .val (.int i), .val (.double x), .second] [(.double y), (.int i), (.ref v)])) tT
    exact kK
  obtain ⟨cl38_, Ar38_, Sz38_, Nn38_, Hh38_⟩ := id fc33_
  have hin38_ : ¬ (i < 0 ∨ cl38_.slots.size ≤ (i).toNatClampNeg) := inb_of Sz38_ hi
  obtain ⟨T38_, h38_, X38_, e38_, W38_, st38_⟩ := stD X36_ hx hZ e36_ Ar38_ (j := i) hin38_ (g := (mkF mM 42 #[.val (.ref a), .val (.int i), .val (.double x), .second] [(.double y), (.int i), (.ref v)])) rfl rfl (Jvm.hb hby own_d3_42)
  have U38_ : own_TD Z h38_ v z (own_upD vf i y) := own_TD.set ⟨cl38_, Ar38_, Sz38_, Nn38_, Hh38_⟩ W38_ hi
  have fc39_ := fc27_.wr W38_
  have fc40_ := fc28_.other W38_ (Or.inl (Ne.symm nav))
  have fc41_ := fc29_.other W38_ (Or.inl (Ne.symm nav))
  have fc42_ := fc30_.other W38_ (Or.inl (Ne.symm nav))
  have fc43_ := fc31_.other W38_ (Or.inl (Ne.symm nav))
  have fc44_ := fc32_.other W38_ (Or.inl (Ne.symm nav))
  have fc45_ := fc34_.other W38_ (Ne.symm nvg)
  have fc46_ := U26_.other W38_ (Ne.symm nvs)
  have fc47_ := fc35_.other W38_ (Ne.symm nvb)
  have K38_ := K26_.wr W38_ (Or.inl (List.mem_of_getElem? (i := 1) rfl))
  have N38_ := Fr.snoc X38_ N26_ gv
  refine own_fin st38_ ?_
  show own_Fin pP eE below _ (T38_.setTop (mkF mM 43 #[.val (.ref a), .val (.int i), .val (.double x), .second] []))
  refine own_fin (b := T38_.setTop (mkF mM 44 #[.val (.ref a), .val (.int i), .val (.double x), .second] [(.ref a)])) (fun tT kK => ?_) ?_
  · show Steps pP.tables eE below (T38_.setTop (mkF mM 43 #[.val (.ref a), .val (.int i), .val (.double x), .second] [])) tT
    refine XS.aloadN X38_.here hx rfl (Jvm.hb hby own_d3_43) rfl rfl ?_
    show Steps pP.tables eE below (T38_.setTop (mkF mM 44 #[.val (.ref a), .val (.int i), .val (.double x), .second] [(.ref a)])) tT
    exact kK
  obtain ⟨T48_, X48_, e48_, st48_⟩ := getF X38_ hx hZ hown (host := "") (Or.inl (hw _ (List.mem_of_getElem? (i := 14) rfl))) Via.refl e38_ fc41_ (g := (mkF mM 44 #[.val (.ref a), .val (.int i), .val (.double x), .second] [(.ref a)])) rfl rfl (Jvm.hb hby own_d3_44)
  refine own_fin st48_ ?_
  show own_Fin pP eE below _ (T48_.setTop (mkF mM 47 #[.val (.ref a), .val (.int i), .val (.double x), .second] [(.ref g)]))
  refine own_fin (b := T48_.setTop (mkF mM 49 #[.val (.ref a), .val (.int i), .val (.double x), .second] [(.int i), (.ref g), (.int i), (.ref g)])) (fun tT kK => ?_) ?_
  · show Steps pP.tables eE below (T48_.setTop (mkF mM 47 #[.val (.ref a), .val (.int i), .val (.double x), .second] [(.ref g)])) tT
    refine XS.iloadN X48_.here hx rfl (Jvm.hb hby own_d3_47) rfl ?_
    show Steps pP.tables eE below (T48_.setTop (mkF mM 48 #[.val (.ref a), .val (.int i), .val (.double x), .second] [(.int i), (.ref g)])) tT
    jvm_step X48_.here [X48_.here.top, hx, (Jvm.hb hby own_d3_48), Value.category]
    show Steps pP.tables eE below (T48_.setTop (mkF mM 49 #[.val (.ref a), .val (.int i), .val (.double x), .second] [(.int i), (.ref g), (.int i), (.ref g)])) tT
    exact kK
  obtain ⟨cl49_, Ar49_, Sz49_, Nn49_, Hh49_⟩ := id fc45_
  have hin49_ : ¬ (i < 0 ∨ cl49_.slots.size ≤ (i).toNatClampNeg) := inb_of Sz49_ hi
  have hat49_ : cl49_.slots[(i).toNatClampNeg]? = some (.double (gf i)) := Hh49_ _ hin49_
  refine own_fin (b := T48_.setTop (mkF mM 51 #[.val (.ref a), .val (.int i), .val (.double x), .second] [(.double x), (.double (gf i)), (.int i), (.ref g)])) (fun tT kK => ?_) ?_
  · show Steps pP.tables eE below (T48_.setTop (mkF mM 49 #[.val (.ref a), .val (.int i), .val (.double x), .second] [(.int i), (.ref g), (.int i), (.ref g)])) tT
    refine X48_.daload hx (j := i) (v := (.double (gf i))) (own_rw e48_ Ar49_.1) (State.isArrayOf_alike hZ.alike Ar49_.2.1) Ar49_.2.2 hin49_ hat49_ (g := (mkF mM 49 #[.val (.ref a), .val (.int i), .val (.double x), .second] [(.int i), (.ref g), (.int i), (.ref g)])) rfl rfl (Jvm.hb hby own_d3_49) _ ?_
    show Steps pP.tables eE below (T48_.setTop (mkF mM 50 #[.val (.ref a), .val (.int i), .val (.double x), .second] [(.double (gf i)), (.int i), (.ref g)])) tT
    refine XS.dloadN X48_.here hx rfl (Jvm.hb hby own_d3_50) rfl ?_
    show Steps pP.tables eE below (T48_.setTop (mkF mM 51 #[.val (.ref a), .val (.int i), .val (.double x), .second] [(.double x), (.double (gf i)), (.int i), (.ref g)])) tT
    exact kK
  obtain ⟨T50_, X50_, e50_, st50_⟩ := natS X48_ hx hZ hown (hw _ (List.mem_of_getElem? (i := 29) rfl)) (hw _ (List.mem_of_getElem? (i := 30) rfl)) (hw _ (List.mem_of_getElem? (i := 31) rfl)) (hw _ (List.mem_of_getElem? (i := 32) rfl)) (by decide) e48_ (W := 4) (val' := (.double (own_ab x))) (fun hc => Jvm.Free.Fl.Abs.absD_pays x hc (by decide) (by decide)) (g := (mkF mM 51 #[.val (.ref a), .val (.int i), .val (.double x), .second] [(.double x), (.double (gf i)), (.int i), (.ref g)])) rfl (by rw [hml]; rfl) (argsL := [(.double x)]) (rest := [(.double (gf i)), (.int i), (.ref g)]) (lenOf own_pd0 rfl) rfl (by show 2 * 0 + _ ≤ _; exact Nat.le_of_eq rfl) (Jvm.hb hby own_d3_51) (by decide) (by decide) ⟨rfl, hx1⟩ rfl
  refine own_fin st50_ ?_
  show own_Fin pP eE below _ (T50_.setTop (mkF mM 54 #[.val (.ref a), .val (.int i), .val (.double x), .second] [(.double (own_ab x)), (.double (gf i)), (.int i), (.ref g)]))
  refine own_fin (b := T50_.setTop (mkF mM 55 #[.val (.ref a), .val (.int i), .val (.double x), .second] [(.double w), (.int i), (.ref g)])) (fun tT kK => ?_) ?_
  · show Steps pP.tables eE below (T50_.setTop (mkF mM 54 #[.val (.ref a), .val (.int i), .val (.double x), .second] [(.double (own_ab x)), (.double (gf i)), (.int i), (.ref g)])) tT
    refine XS.daddS X50_.here hx rfl (Jvm.hb hby own_d3_54) rfl (by rw [hw1]; exact hwn) (v := w) hw1 ?_
    show Steps pP.tables eE below (T50_.setTop (mkF mM 55 #[.val (.ref a), .val (.int i), .val (.double x), .second] [(.double w), (.int i), (.ref g)])) tT
    exact kK
  obtain ⟨cl51_, Ar51_, Sz51_, Nn51_, Hh51_⟩ := id fc45_
  have hin51_ : ¬ (i < 0 ∨ cl51_.slots.size ≤ (i).toNatClampNeg) := inb_of Sz51_ hi
  obtain ⟨T51_, h51_, X51_, e51_, W51_, st51_⟩ := stD X50_ hx hZ e50_ Ar51_ (j := i) hin51_ (g := (mkF mM 55 #[.val (.ref a), .val (.int i), .val (.double x), .second] [(.double w), (.int i), (.ref g)])) rfl rfl (Jvm.hb hby own_d3_55)
  have U51_ : own_TD Z h51_ g z (own_upD gf i w) := own_TD.set ⟨cl51_, Ar51_, Sz51_, Nn51_, Hh51_⟩ W51_ hi
  have fc52_ := fc39_.wr W51_
  have fc53_ := fc40_.other W51_ (Or.inl (Ne.symm nag))
  have fc54_ := fc41_.other W51_ (Or.inl (Ne.symm nag))
  have fc55_ := fc42_.other W51_ (Or.inl (Ne.symm nag))
  have fc56_ := fc43_.other W51_ (Or.inl (Ne.symm nag))
  have fc57_ := fc44_.other W51_ (Or.inl (Ne.symm nag))
  have fc58_ := U38_.other W51_ nvg
  have fc59_ := fc46_.other W51_ (Ne.symm ngs)
  have fc60_ := fc47_.other W51_ (Ne.symm ngb)
  have K51_ := K38_.wr W51_ (Or.inl (List.mem_of_getElem? (i := 2) rfl))
  have N51_ := Fr.snoc X51_ N38_ gg
  refine own_fin st51_ ?_
  show own_Fin pP eE below _ (T51_.setTop (mkF mM 56 #[.val (.ref a), .val (.int i), .val (.double x), .second] []))
  obtain ⟨fs, hr, hrun, hended, hW, hsame⟩ := X51_.leave (v := none) (fun _ => rfl)
  refine ⟨_, _, ?_, hrun, hended, _, _, rfl, ?_, ⟨_, rfl⟩, hW, hsame.mono (by decide) (by decide)⟩
  · show Steps pP.tables eE below (T51_.setTop (mkF mM 56 #[.val (.ref a), .val (.int i), .val (.double x), .second] [])) _
    exact X51_.returnOut hx Bd.returns (Jvm.hb hby own_d3_56) hr
  · show Q_rm_add1 Z a v g s b z i x c y w vf gf sf bf h0 n0 _ T51_.heap _
    rw [e51_]
    exact ⟨rfl, N51_, K51_, fc52_, fc53_, fc54_, fc55_, fc56_, fc57_, fc58_, U51_, fc59_, fc60_⟩
theorem own_ef_rm_add0 (mM : MethodId) (x0 : Addr) (x1 : Int32) (x2 : UInt64) : entryFrame mM #[(.ref x0), (.int x1), (.double x2)] 4 = mkF mM 0 #[.val (.ref x0), .val (.int x1), .val (.double x2), .second] [] := by first | (simp [entryFrame, mkF, argsToLocals, Value.category]; done) | rfl
def Q_rm_add0 (Z : State) (a : Addr) (v : Addr) (g : Addr) (s : Addr) (b : Addr) (z : Int32) (i : Int32) (x : UInt64) (c : Int32) (y : UInt64) (w : UInt64) (vf : Int32 → UInt64) (gf : Int32 → UInt64) (sf : Int32 → Int32) (bf : Int32 → Int32) (h0 : Heap) (n0 : Nat) (vV : Option Value) (hH : Heap) (lA : List Loc) : Prop := vV = none ∧ Fr n0 lA ∧ (Keep h0 hH [a, v, g, s, b]) ∧ (Exa Z hH a "com/example/chains_to_rank/chainstorank/ranker/Scores") ∧ (Fld Z hH a "com/example/chains_to_rank/chainstorank/ranker/Scores" "values" "[D" (.ref v)) ∧ (Fld Z hH a "com/example/chains_to_rank/chainstorank/ranker/Scores" "magnitudes" "[D" (.ref g)) ∧ (Fld Z hH a "com/example/chains_to_rank/chainstorank/ranker/Scores" "scored" "[I" (.ref s)) ∧ (Fld Z hH a "com/example/chains_to_rank/chainstorank/ranker/Scores" "isScored" "[Z" (.ref b)) ∧ (Fld Z hH a "com/example/chains_to_rank/chainstorank/ranker/Scores" "scoredCount" "I" (.int c)) ∧ (own_TD Z hH v z (own_upD vf i y)) ∧ (own_TD Z hH g z (own_upD gf i w)) ∧ (own_T Z hH s .int z sf) ∧ (own_T Z hH b .boolean z bf)
set_option maxRecDepth 65536 in
set_option maxHeartbeats 40000000 in
theorem rm_add0 (lL : Launch) (Z : State) (a0 : Array Value) (hw : ∀ d ∈ tables_1, d.before a0 Z = true) (ws : List Jvm.Cond) (a : Addr) (v : Addr) (g : Addr) (s : Addr) (b : Addr) (z : Int32) (i : Int32) (x : UInt64) (c : Int32) (y : UInt64) (w : UInt64) (vf : Int32 → UInt64) (gf : Int32 → UInt64) (sf : Int32 → Int32) (bf : Int32 → Int32) (h0 : Heap) (n0 : Nat) (Z0 : n0 ≤ h0.size) (Ea : Exa Z h0 a "com/example/chains_to_rank/chainstorank/ranker/Scores") (F0 : Fld Z h0 a "com/example/chains_to_rank/chainstorank/ranker/Scores" "values" "[D" (.ref v)) (F1 : Fld Z h0 a "com/example/chains_to_rank/chainstorank/ranker/Scores" "magnitudes" "[D" (.ref g)) (F2 : Fld Z h0 a "com/example/chains_to_rank/chainstorank/ranker/Scores" "scored" "[I" (.ref s)) (F3 : Fld Z h0 a "com/example/chains_to_rank/chainstorank/ranker/Scores" "isScored" "[Z" (.ref b)) (Fc : Fld Z h0 a "com/example/chains_to_rank/chainstorank/ranker/Scores" "scoredCount" "I" (.int c)) (T0 : own_TD Z h0 v z vf) (T1 : own_TD Z h0 g z gf) (T2 : own_T Z h0 s .int z sf) (T3 : own_T Z h0 b .boolean z bf) (ga : n0 ≤ a) (gv : n0 ≤ v) (gg : n0 ≤ g) (gs : n0 ≤ s) (gb : n0 ≤ b) (nvg : v ≠ g) (nvs : v ≠ s) (nvb : v ≠ b) (ngs : g ≠ s) (ngb : g ≠ b) (nsb : s ≠ b) (nav : v ≠ a) (nag : g ≠ a) (nas : s ≠ a) (nab : b ≠ a) (hi : ¬ i < 0 ∧ i < z) (hx1 : NoNaN64 x) (hy : FP.dadd (vf i) x = y) (hyn : NoNaN64 y) (hw1 : FP.dadd (gf i) (own_ab x) = w) (hwn : NoNaN64 w) (hb : ¬ (bf i = (0 : Int32))) :
    MetFree lL (⟨"com/example/chains_to_rank/chainstorank/ranker/Scores", "add", "(ID)V"⟩ : MethodName) (head1 (Jvm.Cond.code (⟨"com/example/chains_to_rank/chainstorank/ranker/Scores", "add", "(ID)V"⟩ : MethodName) prog_88_method_2_code 4 none :: ws) ({ frames := 1, cells := 0, slots := 0, locals := 17 } : Room)) (fun aA uU => aA = #[(.ref a), (.int i), (.double x)] ∧ Z.Warmed39 uU.vm ∧ uU.heap = h0) (fun _ _ _ _ _ => True) (fun _ uU oO uU' => ∃ vV lA, oO = .returned vV ∧ Q_rm_add0 Z a v g s b z i x c y w vf gf sf bf h0 n0 vV uU'.heap lA ∧ FrameEnd uU oO uU' lA ({ frames := 1, cells := 0, slots := 0, locals := 17 } : Room).cells ({ frames := 1, cells := 0, slots := 0, locals := 17 } : Room).slots) := by
  refine MetFree.of_bodySF (plainFor_of_name own_pn_com_example_chains_to_rank_chainstorank_ranker_Scores) hisR ?_
  intro pP eE sS mM args below meth cC s₁ Bd hml0 hP hK
  obtain ⟨rfl, hZ, hh⟩ := hP
  have hx := Bd.exec
  have hby := Bd.bytes
  have hml : cC.maxLocals = 4 := hml0
  have hown : sS.vm.findClass "com/example/chains_to_rank/chainstorank/ranker/Scores" = some mM.cls := findClass_of_methodNamed Bd.named
  have hnm := (name_of_methodNamed Bd.named Bd.method).1
  have X0 : Stand pP lL eE ({ frames := 1, cells := 0, slots := 0, locals := 17 } : Room) sS mM #[(.ref a), (.int i), (.double x)] below meth cC s₁ [] 0 0 := Stand.of_body Bd
  have e0 : s₁.heap = h0 := by rw [← hh, Bd.state]; rfl
  have N0 := Fr.nil n0
  have K0 := Keep.refl h0 [a, v, g, s, b]
  show own_Fin pP eE below (fun tT oO => ∃ vV lA, oO = .returned vV ∧ Q_rm_add0 Z a v g s b z i x c y w vf gf sf bf h0 n0 vV tT.heap lA ∧ FrameEnd sS oO tT lA ({ frames := 1, cells := 0, slots := 0, locals := 17 } : Room).cells ({ frames := 1, cells := 0, slots := 0, locals := 17 } : Room).slots) (s₁.setTop (entryFrame mM #[(.ref a), (.int i), (.double x)] 4))
  refine own_fin (b := s₁.setTop (mkF mM 0 #[.val (.ref a), .val (.int i), .val (.double x), .second] [])) (fun tT kK => castTop (own_ef_rm_add0 mM a i x) kK) ?_
  refine own_fin (b := s₁.setTop (mkF mM 1 #[.val (.ref a), .val (.int i), .val (.double x), .second] [(.ref a)])) (fun tT kK => ?_) ?_
  · show Steps pP.tables eE below (s₁.setTop (mkF mM 0 #[.val (.ref a), .val (.int i), .val (.double x), .second] [])) tT
    refine XS.aloadN X0.here hx rfl (Jvm.hb hby own_d3_0) rfl rfl ?_
    show Steps pP.tables eE below (s₁.setTop (mkF mM 1 #[.val (.ref a), .val (.int i), .val (.double x), .second] [(.ref a)])) tT
    exact kK
  obtain ⟨T1_, X1_, e1_, st1_⟩ := getF X0 hx hZ hown (host := "") (Or.inl (hw _ (List.mem_of_getElem? (i := 20) rfl))) Via.refl e0 F3 (g := (mkF mM 1 #[.val (.ref a), .val (.int i), .val (.double x), .second] [(.ref a)])) rfl rfl (Jvm.hb hby own_d3_1)
  refine own_fin st1_ ?_
  show own_Fin pP eE below _ (T1_.setTop (mkF mM 4 #[.val (.ref a), .val (.int i), .val (.double x), .second] [(.ref b)]))
  refine own_fin (b := T1_.setTop (mkF mM 5 #[.val (.ref a), .val (.int i), .val (.double x), .second] [(.int i), (.ref b)])) (fun tT kK => ?_) ?_
  · show Steps pP.tables eE below (T1_.setTop (mkF mM 4 #[.val (.ref a), .val (.int i), .val (.double x), .second] [(.ref b)])) tT
    refine XS.iloadN X1_.here hx rfl (Jvm.hb hby own_d3_4) rfl ?_
    show Steps pP.tables eE below (T1_.setTop (mkF mM 5 #[.val (.ref a), .val (.int i), .val (.double x), .second] [(.int i), (.ref b)])) tT
    exact kK
  obtain ⟨cl2_, Ar2_, Sz2_, Nn2_, Hh2_⟩ := id T3
  have hin2_ : ¬ (i < 0 ∨ cl2_.slots.size ≤ (i).toNatClampNeg) := inb_of Sz2_ hi
  have hat2_ : cl2_.slots[(i).toNatClampNeg]? = some (.int (bf i)) := Hh2_ _ hin2_
  refine own_fin (b := T1_.setTop (mkF mM 34 #[.val (.ref a), .val (.int i), .val (.double x), .second] [(.ref a)])) (fun tT kK => ?_) ?_
  · show Steps pP.tables eE below (T1_.setTop (mkF mM 5 #[.val (.ref a), .val (.int i), .val (.double x), .second] [(.int i), (.ref b)])) tT
    refine X1_.baloadBooleans hx (j := i) (v := (.int (bf i))) (own_rw e1_ Ar2_.1) (State.isArrayOf_alike hZ.alike Ar2_.2.1) Ar2_.2.2 hin2_ hat2_ (g := (mkF mM 5 #[.val (.ref a), .val (.int i), .val (.double x), .second] [(.int i), (.ref b)])) rfl rfl (Jvm.hb hby own_d3_5) _ ?_
    show Steps pP.tables eE below (T1_.setTop (mkF mM 6 #[.val (.ref a), .val (.int i), .val (.double x), .second] [(.int (bf i))])) tT
    refine XS.ifYes X1_.here hx rfl (pc0 := 6) (pc' := 33) rfl (Jvm.hb hby own_d3_6) rfl ((if0 _ _).trans (feq (hb : ¬ ((bf i) = (0 : Int32)))).2) (by decide) (by decide) ?_
    show Steps pP.tables eE below (T1_.setTop (mkF mM 33 #[.val (.ref a), .val (.int i), .val (.double x), .second] [])) tT
    refine XS.aloadN X1_.here hx rfl (Jvm.hb hby own_d3_33) rfl rfl ?_
    show Steps pP.tables eE below (T1_.setTop (mkF mM 34 #[.val (.ref a), .val (.int i), .val (.double x), .second] [(.ref a)])) tT
    exact kK
  obtain ⟨T3_, X3_, e3_, st3_⟩ := getF X1_ hx hZ hown (host := "") (Or.inl (hw _ (List.mem_of_getElem? (i := 12) rfl))) Via.refl e1_ F0 (g := (mkF mM 34 #[.val (.ref a), .val (.int i), .val (.double x), .second] [(.ref a)])) rfl rfl (Jvm.hb hby own_d3_34)
  refine own_fin st3_ ?_
  show own_Fin pP eE below _ (T3_.setTop (mkF mM 37 #[.val (.ref a), .val (.int i), .val (.double x), .second] [(.ref v)]))
  refine own_fin (b := T3_.setTop (mkF mM 39 #[.val (.ref a), .val (.int i), .val (.double x), .second] [(.int i), (.ref v), (.int i), (.ref v)])) (fun tT kK => ?_) ?_
  · show Steps pP.tables eE below (T3_.setTop (mkF mM 37 #[.val (.ref a), .val (.int i), .val (.double x), .second] [(.ref v)])) tT
    refine XS.iloadN X3_.here hx rfl (Jvm.hb hby own_d3_37) rfl ?_
    show Steps pP.tables eE below (T3_.setTop (mkF mM 38 #[.val (.ref a), .val (.int i), .val (.double x), .second] [(.int i), (.ref v)])) tT
    jvm_step X3_.here [X3_.here.top, hx, (Jvm.hb hby own_d3_38), Value.category]
    show Steps pP.tables eE below (T3_.setTop (mkF mM 39 #[.val (.ref a), .val (.int i), .val (.double x), .second] [(.int i), (.ref v), (.int i), (.ref v)])) tT
    exact kK
  obtain ⟨cl4_, Ar4_, Sz4_, Nn4_, Hh4_⟩ := id T0
  have hin4_ : ¬ (i < 0 ∨ cl4_.slots.size ≤ (i).toNatClampNeg) := inb_of Sz4_ hi
  have hat4_ : cl4_.slots[(i).toNatClampNeg]? = some (.double (vf i)) := Hh4_ _ hin4_
  refine own_fin (b := T3_.setTop (mkF mM 42 #[.val (.ref a), .val (.int i), .val (.double x), .second] [(.double y), (.int i), (.ref v)])) (fun tT kK => ?_) ?_
  · show Steps pP.tables eE below (T3_.setTop (mkF mM 39 #[.val (.ref a), .val (.int i), .val (.double x), .second] [(.int i), (.ref v), (.int i), (.ref v)])) tT
    refine X3_.daload hx (j := i) (v := (.double (vf i))) (own_rw e3_ Ar4_.1) (State.isArrayOf_alike hZ.alike Ar4_.2.1) Ar4_.2.2 hin4_ hat4_ (g := (mkF mM 39 #[.val (.ref a), .val (.int i), .val (.double x), .second] [(.int i), (.ref v), (.int i), (.ref v)])) rfl rfl (Jvm.hb hby own_d3_39) _ ?_
    show Steps pP.tables eE below (T3_.setTop (mkF mM 40 #[.val (.ref a), .val (.int i), .val (.double x), .second] [(.double (vf i)), (.int i), (.ref v)])) tT
    refine XS.dloadN X3_.here hx rfl (Jvm.hb hby own_d3_40) rfl ?_
    show Steps pP.tables eE below (T3_.setTop (mkF mM 41 #[.val (.ref a), .val (.int i), .val (.double x), .second] [(.double x), (.double (vf i)), (.int i), (.ref v)])) tT
    refine XS.daddS X3_.here hx rfl (Jvm.hb hby own_d3_41) rfl (by rw [hy]; exact hyn) (v := y) hy ?_
    show Steps pP.tables eE below (T3_.setTop (mkF mM 42 #[.val (.ref a), .val (.int i), .val (.double x), .second] [(.double y), (.int i), (.ref v)])) tT
    exact kK
  obtain ⟨cl5_, Ar5_, Sz5_, Nn5_, Hh5_⟩ := id T0
  have hin5_ : ¬ (i < 0 ∨ cl5_.slots.size ≤ (i).toNatClampNeg) := inb_of Sz5_ hi
  obtain ⟨T5_, h5_, X5_, e5_, W5_, st5_⟩ := stD X3_ hx hZ e3_ Ar5_ (j := i) hin5_ (g := (mkF mM 42 #[.val (.ref a), .val (.int i), .val (.double x), .second] [(.double y), (.int i), (.ref v)])) rfl rfl (Jvm.hb hby own_d3_42)
  have U5_ : own_TD Z h5_ v z (own_upD vf i y) := own_TD.set ⟨cl5_, Ar5_, Sz5_, Nn5_, Hh5_⟩ W5_ hi
  have fc6_ := Ea.wr W5_
  have fc7_ := F0.other W5_ (Or.inl (Ne.symm nav))
  have fc8_ := F1.other W5_ (Or.inl (Ne.symm nav))
  have fc9_ := F2.other W5_ (Or.inl (Ne.symm nav))
  have fc10_ := F3.other W5_ (Or.inl (Ne.symm nav))
  have fc11_ := Fc.other W5_ (Or.inl (Ne.symm nav))
  have fc12_ := T1.other W5_ (Ne.symm nvg)
  have fc13_ := T2.other W5_ (Ne.symm nvs)
  have fc14_ := T3.other W5_ (Ne.symm nvb)
  have K5_ := K0.wr W5_ (Or.inl (List.mem_of_getElem? (i := 1) rfl))
  have N5_ := Fr.snoc X5_ N0 gv
  refine own_fin st5_ ?_
  show own_Fin pP eE below _ (T5_.setTop (mkF mM 43 #[.val (.ref a), .val (.int i), .val (.double x), .second] []))
  refine own_fin (b := T5_.setTop (mkF mM 44 #[.val (.ref a), .val (.int i), .val (.double x), .second] [(.ref a)])) (fun tT kK => ?_) ?_
  · show Steps pP.tables eE below (T5_.setTop (mkF mM 43 #[.val (.ref a), .val (.int i), .val (.double x), .second] [])) tT
    refine XS.aloadN X5_.here hx rfl (Jvm.hb hby own_d3_43) rfl rfl ?_
    show Steps pP.tables eE below (T5_.setTop (mkF mM 44 #[.val (.ref a), .val (.int i), .val (.double x), .second] [(.ref a)])) tT
    exact kK
  obtain ⟨T15_, X15_, e15_, st15_⟩ := getF X5_ hx hZ hown (host := "") (Or.inl (hw _ (List.mem_of_getElem? (i := 14) rfl))) Via.refl e5_ fc8_ (g := (mkF mM 44 #[.val (.ref a), .val (.int i), .val (.double x), .second] [(.ref a)])) rfl rfl (Jvm.hb hby own_d3_44)
  refine own_fin st15_ ?_
  show own_Fin pP eE below _ (T15_.setTop (mkF mM 47 #[.val (.ref a), .val (.int i), .val (.double x), .second] [(.ref g)]))
  refine own_fin (b := T15_.setTop (mkF mM 49 #[.val (.ref a), .val (.int i), .val (.double x), .second] [(.int i), (.ref g), (.int i), (.ref g)])) (fun tT kK => ?_) ?_
  · show Steps pP.tables eE below (T15_.setTop (mkF mM 47 #[.val (.ref a), .val (.int i), .val (.double x), .second] [(.ref g)])) tT
    refine XS.iloadN X15_.here hx rfl (Jvm.hb hby own_d3_47) rfl ?_
    show Steps pP.tables eE below (T15_.setTop (mkF mM 48 #[.val (.ref a), .val (.int i), .val (.double x), .second] [(.int i), (.ref g)])) tT
    jvm_step X15_.here [X15_.here.top, hx, (Jvm.hb hby own_d3_48), Value.category]
    show Steps pP.tables eE below (T15_.setTop (mkF mM 49 #[.val (.ref a), .val (.int i), .val (.double x), .second] [(.int i), (.ref g), (.int i), (.ref g)])) tT
    exact kK
  obtain ⟨cl16_, Ar16_, Sz16_, Nn16_, Hh16_⟩ := id fc12_
  have hin16_ : ¬ (i < 0 ∨ cl16_.slots.size ≤ (i).toNatClampNeg) := inb_of Sz16_ hi
  have hat16_ : cl16_.slots[(i).toNatClampNeg]? = some (.double (gf i)) := Hh16_ _ hin16_
  refine own_fin (b := T15_.setTop (mkF mM 51 #[.val (.ref a), .val (.int i), .val (.double x), .second] [(.double x), (.double (gf i)), (.int i), (.ref g)])) (fun tT kK => ?_) ?_
  · show Steps pP.tables eE below (T15_.setTop (mkF mM 49 #[.val (.ref a), .val (.int i), .val (.double x), .second] [(.int i), (.ref g), (.int i), (.ref g)])) tT
    refine X15_.daload hx (j := i) (v := (.double (gf i))) (own_rw e15_ Ar16_.1) (State.isArrayOf_alike hZ.alike Ar16_.2.1) Ar16_.2.2 hin16_ hat16_ (g := (mkF mM 49 #[.val (.ref a), .val (.int i), .val (.double x), .second] [(.int i), (.ref g), (.int i), (.ref g)])) rfl rfl (Jvm.hb hby own_d3_49) _ ?_
    show Steps pP.tables eE below (T15_.setTop (mkF mM 50 #[.val (.ref a), .val (.int i), .val (.double x), .second] [(.double (gf i)), (.int i), (.ref g)])) tT
    refine XS.dloadN X15_.here hx rfl (Jvm.hb hby own_d3_50) rfl ?_
    show Steps pP.tables eE below (T15_.setTop (mkF mM 51 #[.val (.ref a), .val (.int i), .val (.double x), .second] [(.double x), (.double (gf i)), (.int i), (.ref g)])) tT
    exact kK
  obtain ⟨T17_, X17_, e17_, st17_⟩ := natS X15_ hx hZ hown (hw _ (List.mem_of_getElem? (i := 29) rfl)) (hw _ (List.mem_of_getElem? (i := 30) rfl)) (hw _ (List.mem_of_getElem? (i := 31) rfl)) (hw _ (List.mem_of_getElem? (i := 32) rfl)) (by decide) e15_ (W := 4) (val' := (.double (own_ab x))) (fun hc => Jvm.Free.Fl.Abs.absD_pays x hc (by decide) (by decide)) (g := (mkF mM 51 #[.val (.ref a), .val (.int i), .val (.double x), .second] [(.double x), (.double (gf i)), (.int i), (.ref g)])) rfl (by rw [hml]; rfl) (argsL := [(.double x)]) (rest := [(.double (gf i)), (.int i), (.ref g)]) (lenOf own_pd0 rfl) rfl (by show 2 * 0 + _ ≤ _; exact Nat.le_of_eq rfl) (Jvm.hb hby own_d3_51) (by decide) (by decide) ⟨rfl, hx1⟩ rfl
  refine own_fin st17_ ?_
  show own_Fin pP eE below _ (T17_.setTop (mkF mM 54 #[.val (.ref a), .val (.int i), .val (.double x), .second] [(.double (own_ab x)), (.double (gf i)), (.int i), (.ref g)]))
  refine own_fin (b := T17_.setTop (mkF mM 55 #[.val (.ref a), .val (.int i), .val (.double x), .second] [(.double w), (.int i), (.ref g)])) (fun tT kK => ?_) ?_
  · show Steps pP.tables eE below (T17_.setTop (mkF mM 54 #[.val (.ref a), .val (.int i), .val (.double x), .second] [(.double (own_ab x)), (.double (gf i)), (.int i), (.ref g)])) tT
    refine XS.daddS X17_.here hx rfl (Jvm.hb hby own_d3_54) rfl (by rw [hw1]; exact hwn) (v := w) hw1 ?_
    show Steps pP.tables eE below (T17_.setTop (mkF mM 55 #[.val (.ref a), .val (.int i), .val (.double x), .second] [(.double w), (.int i), (.ref g)])) tT
    exact kK
  obtain ⟨cl18_, Ar18_, Sz18_, Nn18_, Hh18_⟩ := id fc12_
  have hin18_ : ¬ (i < 0 ∨ cl18_.slots.size ≤ (i).toNatClampNeg) := inb_of Sz18_ hi
  obtain ⟨T18_, h18_, X18_, e18_, W18_, st18_⟩ := stD X17_ hx hZ e17_ Ar18_ (j := i) hin18_ (g := (mkF mM 55 #[.val (.ref a), .val (.int i), .val (.double x), .second] [(.double w), (.int i), (.ref g)])) rfl rfl (Jvm.hb hby own_d3_55)
  have U18_ : own_TD Z h18_ g z (own_upD gf i w) := own_TD.set ⟨cl18_, Ar18_, Sz18_, Nn18_, Hh18_⟩ W18_ hi
  have fc19_ := fc6_.wr W18_
  have fc20_ := fc7_.other W18_ (Or.inl (Ne.symm nag))
  have fc21_ := fc8_.other W18_ (Or.inl (Ne.symm nag))
  have fc22_ := fc9_.other W18_ (Or.inl (Ne.symm nag))
  have fc23_ := fc10_.other W18_ (Or.inl (Ne.symm nag))
  have fc24_ := fc11_.other W18_ (Or.inl (Ne.symm nag))
  have fc25_ := U5_.other W18_ nvg
  have fc26_ := fc13_.other W18_ (Ne.symm ngs)
  have fc27_ := fc14_.other W18_ (Ne.symm ngb)
  have K18_ := K5_.wr W18_ (Or.inl (List.mem_of_getElem? (i := 2) rfl))
  have N18_ := Fr.snoc X18_ N5_ gg
  refine own_fin st18_ ?_
  show own_Fin pP eE below _ (T18_.setTop (mkF mM 56 #[.val (.ref a), .val (.int i), .val (.double x), .second] []))
  obtain ⟨fs, hr, hrun, hended, hW, hsame⟩ := X18_.leave (v := none) (fun _ => rfl)
  refine ⟨_, _, ?_, hrun, hended, _, _, rfl, ?_, ⟨_, rfl⟩, hW, hsame.mono (by decide) (by decide)⟩
  · show Steps pP.tables eE below (T18_.setTop (mkF mM 56 #[.val (.ref a), .val (.int i), .val (.double x), .second] [])) _
    exact X18_.returnOut hx Bd.returns (Jvm.hb hby own_d3_56) hr
  · show Q_rm_add0 Z a v g s b z i x c y w vf gf sf bf h0 n0 _ T18_.heap _
    rw [e18_]
    exact ⟨rfl, N18_, K18_, fc19_, fc20_, fc21_, fc22_, fc23_, fc24_, fc25_, U18_, fc26_, fc27_⟩
theorem own_cl0 {f : Int32 → Int32} {j : Int32} (h : True → f j = 0) : f j = (fun _ => (0 : Int32)) j := h trivial
theorem own_cl0D {f : Int32 → UInt64} {j : Int32} (h : True → f j = 0) : f j = (fun _ => (0 : UInt64)) j := h trivial
theorem own_cl1 {f : Int32 → Int32} {s j x : Int32} (h : ¬ s = j → f j = 0) (hx : x = 0 := by decide) : own_up f s x j = (fun _ => (0 : Int32)) j := by
  unfold own_up
  by_cases q : s = j
  · rw [if_pos q]; exact hx
  · rw [if_neg q]; exact h q
theorem own_cl1D {f : Int32 → UInt64} {s j : Int32} (h : ¬ s = j → f j = 0) : own_upD f s 0 j = (fun _ => (0 : UInt64)) j := by
  unfold own_upD
  by_cases q : s = j
  · rw [if_pos q]
  · rw [if_neg q]; exact h q
theorem own_cl2 {f : Int32 → Int32} {s s' j x y : Int32} (h : ¬ s = j → ¬ s' = j → f j = 0) (hx : x = 0 := by decide) (hy : y = 0 := by decide) : own_up (own_up f s x) s' y j = (fun _ => (0 : Int32)) j := by
  unfold own_up
  by_cases q : s' = j
  · rw [if_pos q]; exact hy
  · rw [if_neg q]
    by_cases r : s = j
    · rw [if_pos r]; exact hx
    · rw [if_neg r]; exact h r q
theorem own_cl2D {f : Int32 → UInt64} {s s' j : Int32} (h : ¬ s = j → ¬ s' = j → f j = 0) : own_upD (own_upD f s 0) s' 0 j = (fun _ => (0 : UInt64)) j := by
  unfold own_upD
  by_cases q : s' = j
  · rw [if_pos q]
  · rw [if_neg q]
    by_cases r : s = j
    · rw [if_pos r]
    · rw [if_neg r]; exact h r q
theorem own_d5_0 : decode prog_88_method_11_code 0 = .ok (.iconst 0, 1) := by decide +kernel
theorem own_d5_1 : decode prog_88_method_11_code 1 = .ok (.istore_n 1, 1) := by decide +kernel
theorem own_d5_2 : decode prog_88_method_11_code 2 = .ok (.iload_n 1, 1) := by decide +kernel
theorem own_d5_3 : decode prog_88_method_11_code 3 = .ok (.aload_n 0, 1) := by decide +kernel
theorem own_d5_4 : decode prog_88_method_11_code 4 = .ok (.getfield 24, 3) := by decide +kernel
theorem own_d5_7 : decode prog_88_method_11_code 7 = .ok (.if_icmp .ge 37, 3) := by decide +kernel
theorem own_d5_44 : decode prog_88_method_11_code 44 = .ok (.aload_n 0, 1) := by decide +kernel
theorem own_d5_45 : decode prog_88_method_11_code 45 = .ok (.iconst 0, 1) := by decide +kernel
theorem own_d5_46 : decode prog_88_method_11_code 46 = .ok (.putfield 24, 3) := by decide +kernel
theorem own_d5_49 : decode prog_88_method_11_code 49 = .ok (.return_, 1) := by decide +kernel
theorem own_ef_rm_clr0 (mM : MethodId) (x0 : Addr) : entryFrame mM #[(.ref x0)] 3 = mkF mM 0 #[.val (.ref x0), .unset, .unset] [] := by first | (simp [entryFrame, mkF, argsToLocals, Value.category]; done) | rfl
def Q_rm_clr0 (Z : State) (a : Addr) (v : Addr) (g : Addr) (s : Addr) (b : Addr) (z : Int32) (vf : Int32 → UInt64) (gf : Int32 → UInt64) (sf : Int32 → Int32) (bf : Int32 → Int32) (h0 : Heap) (n0 : Nat) (vV : Option Value) (hH : Heap) (lA : List Loc) : Prop := vV = none ∧ Fr n0 lA ∧ (Keep h0 hH [a, v, g, s, b]) ∧ (Exa Z hH a "com/example/chains_to_rank/chainstorank/ranker/Scores") ∧ (Fld Z hH a "com/example/chains_to_rank/chainstorank/ranker/Scores" "values" "[D" (.ref v)) ∧ (Fld Z hH a "com/example/chains_to_rank/chainstorank/ranker/Scores" "magnitudes" "[D" (.ref g)) ∧ (Fld Z hH a "com/example/chains_to_rank/chainstorank/ranker/Scores" "scored" "[I" (.ref s)) ∧ (Fld Z hH a "com/example/chains_to_rank/chainstorank/ranker/Scores" "isScored" "[Z" (.ref b)) ∧ (Fld Z hH a "com/example/chains_to_rank/chainstorank/ranker/Scores" "scoredCount" "I" (.int (0 : Int32))) ∧ (own_TD Z hH v z (fun _ => (0 : UInt64))) ∧ (own_TD Z hH g z (fun _ => (0 : UInt64))) ∧ (own_T Z hH s .int z sf) ∧ (own_T Z hH b .boolean z (fun _ => (0 : Int32)))
set_option maxRecDepth 65536 in
set_option maxHeartbeats 40000000 in
theorem rm_clr0 (lL : Launch) (Z : State) (a0 : Array Value) (hw : ∀ d ∈ tables_1, d.before a0 Z = true) (ws : List Jvm.Cond) (a : Addr) (v : Addr) (g : Addr) (s : Addr) (b : Addr) (z : Int32) (vf : Int32 → UInt64) (gf : Int32 → UInt64) (sf : Int32 → Int32) (bf : Int32 → Int32) (h0 : Heap) (n0 : Nat) (Z0 : n0 ≤ h0.size) (Ea : Exa Z h0 a "com/example/chains_to_rank/chainstorank/ranker/Scores") (F0 : Fld Z h0 a "com/example/chains_to_rank/chainstorank/ranker/Scores" "values" "[D" (.ref v)) (F1 : Fld Z h0 a "com/example/chains_to_rank/chainstorank/ranker/Scores" "magnitudes" "[D" (.ref g)) (F2 : Fld Z h0 a "com/example/chains_to_rank/chainstorank/ranker/Scores" "scored" "[I" (.ref s)) (F3 : Fld Z h0 a "com/example/chains_to_rank/chainstorank/ranker/Scores" "isScored" "[Z" (.ref b)) (Fc : Fld Z h0 a "com/example/chains_to_rank/chainstorank/ranker/Scores" "scoredCount" "I" (.int (0 : Int32))) (T0 : own_TD Z h0 v z vf) (T1 : own_TD Z h0 g z gf) (T2 : own_T Z h0 s .int z sf) (T3 : own_T Z h0 b .boolean z bf) (ga : n0 ≤ a) (gv : n0 ≤ v) (gg : n0 ≤ g) (gs : n0 ≤ s) (gb : n0 ≤ b) (nvg : v ≠ g) (nvs : v ≠ s) (nvb : v ≠ b) (ngs : g ≠ s) (ngb : g ≠ b) (nsb : s ≠ b) (nav : v ≠ a) (nag : g ≠ a) (nas : s ≠ a) (nab : b ≠ a) (hI : ∀ j : Int32, ¬ j < 0 ∧ j < z → bf j = (0 : Int32) ∧ vf j = (0 : UInt64) ∧ gf j = (0 : UInt64)) :
    MetFree lL (⟨"com/example/chains_to_rank/chainstorank/ranker/Scores", "clear", "()V"⟩ : MethodName) (head1 (Jvm.Cond.code (⟨"com/example/chains_to_rank/chainstorank/ranker/Scores", "clear", "()V"⟩ : MethodName) prog_88_method_11_code 3 none :: ws) ({ frames := 0, cells := 0, slots := 0, locals := 0 } : Room)) (fun aA uU => aA = #[(.ref a)] ∧ Z.Warmed39 uU.vm ∧ uU.heap = h0) (fun _ _ _ _ _ => True) (fun _ uU oO uU' => ∃ vV lA, oO = .returned vV ∧ Q_rm_clr0 Z a v g s b z vf gf sf bf h0 n0 vV uU'.heap lA ∧ FrameEnd uU oO uU' lA ({ frames := 0, cells := 0, slots := 0, locals := 0 } : Room).cells ({ frames := 0, cells := 0, slots := 0, locals := 0 } : Room).slots) := by
  refine MetFree.of_bodySF (plainFor_of_name own_pn_com_example_chains_to_rank_chainstorank_ranker_Scores) hisR ?_
  intro pP eE sS mM args below meth cC s₁ Bd hml0 hP hK
  obtain ⟨rfl, hZ, hh⟩ := hP
  have hx := Bd.exec
  have hby := Bd.bytes
  have hml : cC.maxLocals = 3 := hml0
  have hown : sS.vm.findClass "com/example/chains_to_rank/chainstorank/ranker/Scores" = some mM.cls := findClass_of_methodNamed Bd.named
  have hnm := (name_of_methodNamed Bd.named Bd.method).1
  have X0 : Stand pP lL eE ({ frames := 0, cells := 0, slots := 0, locals := 0 } : Room) sS mM #[(.ref a)] below meth cC s₁ [] 0 0 := Stand.of_body Bd
  have e0 : s₁.heap = h0 := by rw [← hh, Bd.state]; rfl
  have N0 := Fr.nil n0
  have K0 := Keep.refl h0 [a, v, g, s, b]
  show own_Fin pP eE below (fun tT oO => ∃ vV lA, oO = .returned vV ∧ Q_rm_clr0 Z a v g s b z vf gf sf bf h0 n0 vV tT.heap lA ∧ FrameEnd sS oO tT lA ({ frames := 0, cells := 0, slots := 0, locals := 0 } : Room).cells ({ frames := 0, cells := 0, slots := 0, locals := 0 } : Room).slots) (s₁.setTop (entryFrame mM #[(.ref a)] 3))
  refine own_fin (b := s₁.setTop (mkF mM 0 #[.val (.ref a), .unset, .unset] [])) (fun tT kK => castTop (own_ef_rm_clr0 mM a) kK) ?_
  refine own_fin (b := s₁.setTop (mkF mM 4 #[.val (.ref a), .val (.int (0 : Int32)), .unset] [(.ref a), (.int (0 : Int32))])) (fun tT kK => ?_) ?_
  · show Steps pP.tables eE below (s₁.setTop (mkF mM 0 #[.val (.ref a), .unset, .unset] [])) tT
    refine XS.iconst X0.here hx rfl (Jvm.hb hby own_d5_0) ?_
    show Steps pP.tables eE below (s₁.setTop (mkF mM 1 #[.val (.ref a), .unset, .unset] [(.int (0 : Int32))])) tT
    refine XS.istoreN X0.here hx rfl (Jvm.hb hby own_d5_1) rfl (l' := #[.val (.ref a), .val (.int (0 : Int32)), .unset]) rfl ?_
    show Steps pP.tables eE below (s₁.setTop (mkF mM 2 #[.val (.ref a), .val (.int (0 : Int32)), .unset] [])) tT
    refine XS.iloadN X0.here hx rfl (Jvm.hb hby own_d5_2) rfl ?_
    show Steps pP.tables eE below (s₁.setTop (mkF mM 3 #[.val (.ref a), .val (.int (0 : Int32)), .unset] [(.int (0 : Int32))])) tT
    refine XS.aloadN X0.here hx rfl (Jvm.hb hby own_d5_3) rfl rfl ?_
    show Steps pP.tables eE below (s₁.setTop (mkF mM 4 #[.val (.ref a), .val (.int (0 : Int32)), .unset] [(.ref a), (.int (0 : Int32))])) tT
    exact kK
  obtain ⟨T1_, X1_, e1_, st1_⟩ := getF X0 hx hZ hown (host := "") (Or.inl (hw _ (List.mem_of_getElem? (i := 27) rfl))) Via.refl e0 Fc (g := (mkF mM 4 #[.val (.ref a), .val (.int (0 : Int32)), .unset] [(.ref a), (.int (0 : Int32))])) rfl rfl (Jvm.hb hby own_d5_4)
  refine own_fin st1_ ?_
  show own_Fin pP eE below _ (T1_.setTop (mkF mM 7 #[.val (.ref a), .val (.int (0 : Int32)), .unset] [(.int (0 : Int32)), (.int (0 : Int32))]))
  refine own_fin (b := T1_.setTop (mkF mM 44 #[.val (.ref a), .val (.int (0 : Int32)), .unset] [])) (fun tT kK => ?_) ?_
  · show Steps pP.tables eE below (T1_.setTop (mkF mM 7 #[.val (.ref a), .val (.int (0 : Int32)), .unset] [(.int (0 : Int32)), (.int (0 : Int32))])) tT
    refine XS.icmpYes X1_.here hx rfl (pc0 := 7) (pc' := 44) rfl (Jvm.hb hby own_d5_7) rfl (flt ((by decide) : ¬ ((0 : Int32) < (0 : Int32)))).2.1 (by decide) (by decide) ?_
    show Steps pP.tables eE below (T1_.setTop (mkF mM 44 #[.val (.ref a), .val (.int (0 : Int32)), .unset] [])) tT
    exact kK
  have Zv_ : own_TD Z h0 v z (fun _ => (0 : UInt64)) := T0.congr (fun j hj => own_cl0D (fun (_ : True) => (hI j hj).2.1))
  have Zg_ : own_TD Z h0 g z (fun _ => (0 : UInt64)) := T1.congr (fun j hj => own_cl0D (fun (_ : True) => (hI j hj).2.2))
  have Zb_ : own_T Z h0 b .boolean z (fun _ => (0 : Int32)) := T3.congr (fun j hj => own_cl0 (fun (_ : True) => (hI j hj).1))
  refine own_fin (b := T1_.setTop (mkF mM 46 #[.val (.ref a), .val (.int (0 : Int32)), .unset] [(.int (0 : Int32)), (.ref a)])) (fun tT kK => ?_) ?_
  · show Steps pP.tables eE below (T1_.setTop (mkF mM 44 #[.val (.ref a), .val (.int (0 : Int32)), .unset] [])) tT
    refine XS.aloadN X1_.here hx rfl (Jvm.hb hby own_d5_44) rfl rfl ?_
    show Steps pP.tables eE below (T1_.setTop (mkF mM 45 #[.val (.ref a), .val (.int (0 : Int32)), .unset] [(.ref a)])) tT
    refine XS.iconst X1_.here hx rfl (Jvm.hb hby own_d5_45) ?_
    show Steps pP.tables eE below (T1_.setTop (mkF mM 46 #[.val (.ref a), .val (.int (0 : Int32)), .unset] [(.int (0 : Int32)), (.ref a)])) tT
    exact kK
  obtain ⟨T2_, h2_, X2_, e2_, W2_, st2_⟩ := putF X1_ hx hZ hown (host := "") (Or.inl (hw _ (List.mem_of_getElem? (i := 27) rfl))) Via.refl e1_ Fc Ea (Or.inl (hw _ (List.mem_of_getElem? (i := 28) rfl))) (hw _ (List.mem_of_getElem? (i := 3) rfl)) (ty := .int) (by decide) rfl rfl (g := (mkF mM 46 #[.val (.ref a), .val (.int (0 : Int32)), .unset] [(.int (0 : Int32)), (.ref a)])) rfl rfl (Jvm.hb hby own_d5_46)
  have Fw2_ := Fc.same W2_
  have fc3_ := Ea.wr W2_
  have fc4_ := F0.other W2_ (Or.inr (slot_ne (Or.inr (hw _ (List.mem_of_getElem? (i := 13) rfl))) (Or.inl (hw _ (List.mem_of_getElem? (i := 28) rfl))) (by decide) (t := (.array .double)) (t' := .int) (by decide) (by decide)))
  have fc5_ := F1.other W2_ (Or.inr (slot_ne (Or.inr (hw _ (List.mem_of_getElem? (i := 15) rfl))) (Or.inl (hw _ (List.mem_of_getElem? (i := 28) rfl))) (by decide) (t := (.array .double)) (t' := .int) (by decide) (by decide)))
  have fc6_ := F2.other W2_ (Or.inr (slot_ne (Or.inr (hw _ (List.mem_of_getElem? (i := 18) rfl))) (Or.inl (hw _ (List.mem_of_getElem? (i := 28) rfl))) (by decide) (t := (.array .int)) (t' := .int) (by decide) (by decide)))
  have fc7_ := F3.other W2_ (Or.inr (slot_ne (Or.inr (hw _ (List.mem_of_getElem? (i := 21) rfl))) (Or.inl (hw _ (List.mem_of_getElem? (i := 28) rfl))) (by decide) (t := (.array .boolean)) (t' := .int) (by decide) (by decide)))
  have fc8_ := Zv_.other W2_ nav
  have fc9_ := Zg_.other W2_ nag
  have fc10_ := T2.other W2_ nas
  have fc11_ := Zb_.other W2_ nab
  have K2_ := K0.wr W2_ (Or.inl (List.mem_of_getElem? (i := 0) rfl))
  have N2_ := Fr.snoc X2_ N0 ga
  refine own_fin st2_ ?_
  show own_Fin pP eE below _ (T2_.setTop (mkF mM 49 #[.val (.ref a), .val (.int (0 : Int32)), .unset] []))
  obtain ⟨fs, hr, hrun, hended, hW, hsame⟩ := X2_.leave (v := none) (fun _ => rfl)
  refine ⟨_, _, ?_, hrun, hended, _, _, rfl, ?_, ⟨_, rfl⟩, hW, hsame.mono (by decide) (by decide)⟩
  · show Steps pP.tables eE below (T2_.setTop (mkF mM 49 #[.val (.ref a), .val (.int (0 : Int32)), .unset] [])) _
    exact X2_.returnOut hx Bd.returns (Jvm.hb hby own_d5_49) hr
  · show Q_rm_clr0 Z a v g s b z vf gf sf bf h0 n0 _ T2_.heap _
    rw [e2_]
    exact ⟨rfl, N2_, K2_, fc3_, fc4_, fc5_, fc6_, fc7_, Fw2_, fc8_, fc9_, fc10_, fc11_⟩
theorem own_d5_10 : decode prog_88_method_11_code 10 = .ok (.aload_n 0, 1) := by decide +kernel
theorem own_d5_11 : decode prog_88_method_11_code 11 = .ok (.getfield 16, 3) := by decide +kernel
theorem own_d5_14 : decode prog_88_method_11_code 14 = .ok (.iload_n 1, 1) := by decide +kernel
theorem own_d5_15 : decode prog_88_method_11_code 15 = .ok (.iaload, 1) := by decide +kernel
theorem own_d5_16 : decode prog_88_method_11_code 16 = .ok (.istore_n 2, 1) := by decide +kernel
theorem own_d5_17 : decode prog_88_method_11_code 17 = .ok (.aload_n 0, 1) := by decide +kernel
theorem own_d5_18 : decode prog_88_method_11_code 18 = .ok (.getfield 7, 3) := by decide +kernel
theorem own_d5_21 : decode prog_88_method_11_code 21 = .ok (.iload_n 2, 1) := by decide +kernel
theorem own_d5_22 : decode prog_88_method_11_code 22 = .ok (.dconst 0, 1) := by decide +kernel
theorem own_d5_23 : decode prog_88_method_11_code 23 = .ok (.dastore, 1) := by decide +kernel
theorem own_d5_24 : decode prog_88_method_11_code 24 = .ok (.aload_n 0, 1) := by decide +kernel
theorem own_d5_25 : decode prog_88_method_11_code 25 = .ok (.getfield 13, 3) := by decide +kernel
theorem own_d5_28 : decode prog_88_method_11_code 28 = .ok (.iload_n 2, 1) := by decide +kernel
theorem own_d5_29 : decode prog_88_method_11_code 29 = .ok (.dconst 0, 1) := by decide +kernel
theorem own_d5_30 : decode prog_88_method_11_code 30 = .ok (.dastore, 1) := by decide +kernel
theorem own_d5_31 : decode prog_88_method_11_code 31 = .ok (.aload_n 0, 1) := by decide +kernel
theorem own_d5_32 : decode prog_88_method_11_code 32 = .ok (.getfield 20, 3) := by decide +kernel
theorem own_d5_35 : decode prog_88_method_11_code 35 = .ok (.iload_n 2, 1) := by decide +kernel
theorem own_d5_36 : decode prog_88_method_11_code 36 = .ok (.iconst 0, 1) := by decide +kernel
theorem own_d5_37 : decode prog_88_method_11_code 37 = .ok (.bastore, 1) := by decide +kernel
theorem own_d5_38 : decode prog_88_method_11_code 38 = .ok (.iinc 1 1, 3) := by decide +kernel
theorem own_d5_41 : decode prog_88_method_11_code 41 = .ok (.goto (-39), 3) := by decide +kernel
theorem own_ef_rm_clr1 (mM : MethodId) (x0 : Addr) : entryFrame mM #[(.ref x0)] 3 = mkF mM 0 #[.val (.ref x0), .unset, .unset] [] := by first | (simp [entryFrame, mkF, argsToLocals, Value.category]; done) | rfl
def Q_rm_clr1 (Z : State) (a : Addr) (v : Addr) (g : Addr) (s : Addr) (b : Addr) (z : Int32) (vf : Int32 → UInt64) (gf : Int32 → UInt64) (sf : Int32 → Int32) (bf : Int32 → Int32) (h0 : Heap) (n0 : Nat) (vV : Option Value) (hH : Heap) (lA : List Loc) : Prop := vV = none ∧ Fr n0 lA ∧ (Keep h0 hH [a, v, g, s, b]) ∧ (Exa Z hH a "com/example/chains_to_rank/chainstorank/ranker/Scores") ∧ (Fld Z hH a "com/example/chains_to_rank/chainstorank/ranker/Scores" "values" "[D" (.ref v)) ∧ (Fld Z hH a "com/example/chains_to_rank/chainstorank/ranker/Scores" "magnitudes" "[D" (.ref g)) ∧ (Fld Z hH a "com/example/chains_to_rank/chainstorank/ranker/Scores" "scored" "[I" (.ref s)) ∧ (Fld Z hH a "com/example/chains_to_rank/chainstorank/ranker/Scores" "isScored" "[Z" (.ref b)) ∧ (Fld Z hH a "com/example/chains_to_rank/chainstorank/ranker/Scores" "scoredCount" "I" (.int (0 : Int32))) ∧ (own_TD Z hH v z (fun _ => (0 : UInt64))) ∧ (own_TD Z hH g z (fun _ => (0 : UInt64))) ∧ (own_T Z hH s .int z sf) ∧ (own_T Z hH b .boolean z (fun _ => (0 : Int32)))
set_option maxRecDepth 65536 in
set_option maxHeartbeats 40000000 in
theorem rm_clr1 (lL : Launch) (Z : State) (a0 : Array Value) (hw : ∀ d ∈ tables_1, d.before a0 Z = true) (ws : List Jvm.Cond) (a : Addr) (v : Addr) (g : Addr) (s : Addr) (b : Addr) (z : Int32) (vf : Int32 → UInt64) (gf : Int32 → UInt64) (sf : Int32 → Int32) (bf : Int32 → Int32) (h0 : Heap) (n0 : Nat) (Z0 : n0 ≤ h0.size) (Ea : Exa Z h0 a "com/example/chains_to_rank/chainstorank/ranker/Scores") (F0 : Fld Z h0 a "com/example/chains_to_rank/chainstorank/ranker/Scores" "values" "[D" (.ref v)) (F1 : Fld Z h0 a "com/example/chains_to_rank/chainstorank/ranker/Scores" "magnitudes" "[D" (.ref g)) (F2 : Fld Z h0 a "com/example/chains_to_rank/chainstorank/ranker/Scores" "scored" "[I" (.ref s)) (F3 : Fld Z h0 a "com/example/chains_to_rank/chainstorank/ranker/Scores" "isScored" "[Z" (.ref b)) (Fc : Fld Z h0 a "com/example/chains_to_rank/chainstorank/ranker/Scores" "scoredCount" "I" (.int (1 : Int32))) (T0 : own_TD Z h0 v z vf) (T1 : own_TD Z h0 g z gf) (T2 : own_T Z h0 s .int z sf) (T3 : own_T Z h0 b .boolean z bf) (ga : n0 ≤ a) (gv : n0 ≤ v) (gg : n0 ≤ g) (gs : n0 ≤ s) (gb : n0 ≤ b) (nvg : v ≠ g) (nvs : v ≠ s) (nvb : v ≠ b) (ngs : g ≠ s) (ngb : g ≠ b) (nsb : s ≠ b) (nav : v ≠ a) (nag : g ≠ a) (nas : s ≠ a) (nab : b ≠ a) (hI : ∀ j : Int32, ¬ j < 0 ∧ j < z → ¬ (sf (0 : Int32) = j) → bf j = (0 : Int32) ∧ vf j = (0 : UInt64) ∧ gf j = (0 : UInt64)) (hs0 : (¬ (sf (0 : Int32)) < 0 ∧ (sf (0 : Int32)) < z) ∧ (0 : Int32) < z) :
    MetFree lL (⟨"com/example/chains_to_rank/chainstorank/ranker/Scores", "clear", "()V"⟩ : MethodName) (head1 (Jvm.Cond.code (⟨"com/example/chains_to_rank/chainstorank/ranker/Scores", "clear", "()V"⟩ : MethodName) prog_88_method_11_code 3 none :: ws) ({ frames := 0, cells := 0, slots := 0, locals := 0 } : Room)) (fun aA uU => aA = #[(.ref a)] ∧ Z.Warmed39 uU.vm ∧ uU.heap = h0) (fun _ _ _ _ _ => True) (fun _ uU oO uU' => ∃ vV lA, oO = .returned vV ∧ Q_rm_clr1 Z a v g s b z vf gf sf bf h0 n0 vV uU'.heap lA ∧ FrameEnd uU oO uU' lA ({ frames := 0, cells := 0, slots := 0, locals := 0 } : Room).cells ({ frames := 0, cells := 0, slots := 0, locals := 0 } : Room).slots) := by
  refine MetFree.of_bodySF (plainFor_of_name own_pn_com_example_chains_to_rank_chainstorank_ranker_Scores) hisR ?_
  intro pP eE sS mM args below meth cC s₁ Bd hml0 hP hK
  obtain ⟨rfl, hZ, hh⟩ := hP
  have hx := Bd.exec
  have hby := Bd.bytes
  have hml : cC.maxLocals = 3 := hml0
  have hown : sS.vm.findClass "com/example/chains_to_rank/chainstorank/ranker/Scores" = some mM.cls := findClass_of_methodNamed Bd.named
  have hnm := (name_of_methodNamed Bd.named Bd.method).1
  have X0 : Stand pP lL eE ({ frames := 0, cells := 0, slots := 0, locals := 0 } : Room) sS mM #[(.ref a)] below meth cC s₁ [] 0 0 := Stand.of_body Bd
  have e0 : s₁.heap = h0 := by rw [← hh, Bd.state]; rfl
  have N0 := Fr.nil n0
  have K0 := Keep.refl h0 [a, v, g, s, b]
  show own_Fin pP eE below (fun tT oO => ∃ vV lA, oO = .returned vV ∧ Q_rm_clr1 Z a v g s b z vf gf sf bf h0 n0 vV tT.heap lA ∧ FrameEnd sS oO tT lA ({ frames := 0, cells := 0, slots := 0, locals := 0 } : Room).cells ({ frames := 0, cells := 0, slots := 0, locals := 0 } : Room).slots) (s₁.setTop (entryFrame mM #[(.ref a)] 3))
  refine own_fin (b := s₁.setTop (mkF mM 0 #[.val (.ref a), .unset, .unset] [])) (fun tT kK => castTop (own_ef_rm_clr1 mM a) kK) ?_
  refine own_fin (b := s₁.setTop (mkF mM 4 #[.val (.ref a), .val (.int (0 : Int32)), .unset] [(.ref a), (.int (0 : Int32))])) (fun tT kK => ?_) ?_
  · show Steps pP.tables eE below (s₁.setTop (mkF mM 0 #[.val (.ref a), .unset, .unset] [])) tT
    refine XS.iconst X0.here hx rfl (Jvm.hb hby own_d5_0) ?_
    show Steps pP.tables eE below (s₁.setTop (mkF mM 1 #[.val (.ref a), .unset, .unset] [(.int (0 : Int32))])) tT
    refine XS.istoreN X0.here hx rfl (Jvm.hb hby own_d5_1) rfl (l' := #[.val (.ref a), .val (.int (0 : Int32)), .unset]) rfl ?_
    show Steps pP.tables eE below (s₁.setTop (mkF mM 2 #[.val (.ref a), .val (.int (0 : Int32)), .unset] [])) tT
    refine XS.iloadN X0.here hx rfl (Jvm.hb hby own_d5_2) rfl ?_
    show Steps pP.tables eE below (s₁.setTop (mkF mM 3 #[.val (.ref a), .val (.int (0 : Int32)), .unset] [(.int (0 : Int32))])) tT
    refine XS.aloadN X0.here hx rfl (Jvm.hb hby own_d5_3) rfl rfl ?_
    show Steps pP.tables eE below (s₁.setTop (mkF mM 4 #[.val (.ref a), .val (.int (0 : Int32)), .unset] [(.ref a), (.int (0 : Int32))])) tT
    exact kK
  obtain ⟨T1_, X1_, e1_, st1_⟩ := getF X0 hx hZ hown (host := "") (Or.inl (hw _ (List.mem_of_getElem? (i := 27) rfl))) Via.refl e0 Fc (g := (mkF mM 4 #[.val (.ref a), .val (.int (0 : Int32)), .unset] [(.ref a), (.int (0 : Int32))])) rfl rfl (Jvm.hb hby own_d5_4)
  refine own_fin st1_ ?_
  show own_Fin pP eE below _ (T1_.setTop (mkF mM 7 #[.val (.ref a), .val (.int (0 : Int32)), .unset] [(.int (1 : Int32)), (.int (0 : Int32))]))
  refine own_fin (b := T1_.setTop (mkF mM 11 #[.val (.ref a), .val (.int (0 : Int32)), .unset] [(.ref a)])) (fun tT kK => ?_) ?_
  · show Steps pP.tables eE below (T1_.setTop (mkF mM 7 #[.val (.ref a), .val (.int (0 : Int32)), .unset] [(.int (1 : Int32)), (.int (0 : Int32))])) tT
    refine XS.icmpNo X1_.here hx rfl (Jvm.hb hby own_d5_7) rfl (tlt ((by decide) : (0 : Int32) < (1 : Int32))).2.1 ?_
    show Steps pP.tables eE below (T1_.setTop (mkF mM 10 #[.val (.ref a), .val (.int (0 : Int32)), .unset] [])) tT
    refine XS.aloadN X1_.here hx rfl (Jvm.hb hby own_d5_10) rfl rfl ?_
    show Steps pP.tables eE below (T1_.setTop (mkF mM 11 #[.val (.ref a), .val (.int (0 : Int32)), .unset] [(.ref a)])) tT
    exact kK
  obtain ⟨T2_, X2_, e2_, st2_⟩ := getF X1_ hx hZ hown (host := "") (Or.inl (hw _ (List.mem_of_getElem? (i := 17) rfl))) Via.refl e1_ F2 (g := (mkF mM 11 #[.val (.ref a), .val (.int (0 : Int32)), .unset] [(.ref a)])) rfl rfl (Jvm.hb hby own_d5_11)
  refine own_fin st2_ ?_
  show own_Fin pP eE below _ (T2_.setTop (mkF mM 14 #[.val (.ref a), .val (.int (0 : Int32)), .unset] [(.ref s)]))
  refine own_fin (b := T2_.setTop (mkF mM 15 #[.val (.ref a), .val (.int (0 : Int32)), .unset] [(.int (0 : Int32)), (.ref s)])) (fun tT kK => ?_) ?_
  · show Steps pP.tables eE below (T2_.setTop (mkF mM 14 #[.val (.ref a), .val (.int (0 : Int32)), .unset] [(.ref s)])) tT
    refine XS.iloadN X2_.here hx rfl (Jvm.hb hby own_d5_14) rfl ?_
    show Steps pP.tables eE below (T2_.setTop (mkF mM 15 #[.val (.ref a), .val (.int (0 : Int32)), .unset] [(.int (0 : Int32)), (.ref s)])) tT
    exact kK
  obtain ⟨cl3_, Ar3_, Sz3_, Nn3_, Hh3_⟩ := id T2
  have hin3_ : ¬ ((0 : Int32) < 0 ∨ cl3_.slots.size ≤ ((0 : Int32)).toNatClampNeg) := inb_of Sz3_ ⟨by decide, hs0.2⟩
  have hat3_ : cl3_.slots[((0 : Int32)).toNatClampNeg]? = some (.int (sf (0 : Int32))) := Hh3_ _ hin3_
  refine own_fin (b := T2_.setTop (mkF mM 18 #[.val (.ref a), .val (.int (0 : Int32)), .val (.int (sf (0 : Int32)))] [(.ref a)])) (fun tT kK => ?_) ?_
  · show Steps pP.tables eE below (T2_.setTop (mkF mM 15 #[.val (.ref a), .val (.int (0 : Int32)), .unset] [(.int (0 : Int32)), (.ref s)])) tT
    refine X2_.iaload hx (j := (0 : Int32)) (v := (.int (sf (0 : Int32)))) (own_rw e2_ Ar3_.1) (State.isArrayOf_alike hZ.alike Ar3_.2.1) Ar3_.2.2 hin3_ hat3_ (g := (mkF mM 15 #[.val (.ref a), .val (.int (0 : Int32)), .unset] [(.int (0 : Int32)), (.ref s)])) rfl rfl (Jvm.hb hby own_d5_15) _ ?_
    show Steps pP.tables eE below (T2_.setTop (mkF mM 16 #[.val (.ref a), .val (.int (0 : Int32)), .unset] [(.int (sf (0 : Int32)))])) tT
    refine XS.istoreN X2_.here hx rfl (Jvm.hb hby own_d5_16) rfl (l' := #[.val (.ref a), .val (.int (0 : Int32)), .val (.int (sf (0 : Int32)))]) rfl ?_
    show Steps pP.tables eE below (T2_.setTop (mkF mM 17 #[.val (.ref a), .val (.int (0 : Int32)), .val (.int (sf (0 : Int32)))] [])) tT
    refine XS.aloadN X2_.here hx rfl (Jvm.hb hby own_d5_17) rfl rfl ?_
    show Steps pP.tables eE below (T2_.setTop (mkF mM 18 #[.val (.ref a), .val (.int (0 : Int32)), .val (.int (sf (0 : Int32)))] [(.ref a)])) tT
    exact kK
  obtain ⟨T4_, X4_, e4_, st4_⟩ := getF X2_ hx hZ hown (host := "") (Or.inl (hw _ (List.mem_of_getElem? (i := 12) rfl))) Via.refl e2_ F0 (g := (mkF mM 18 #[.val (.ref a), .val (.int (0 : Int32)), .val (.int (sf (0 : Int32)))] [(.ref a)])) rfl rfl (Jvm.hb hby own_d5_18)
  refine own_fin st4_ ?_
  show own_Fin pP eE below _ (T4_.setTop (mkF mM 21 #[.val (.ref a), .val (.int (0 : Int32)), .val (.int (sf (0 : Int32)))] [(.ref v)]))
  refine own_fin (b := T4_.setTop (mkF mM 23 #[.val (.ref a), .val (.int (0 : Int32)), .val (.int (sf (0 : Int32)))] [(.double (0 : UInt64)), (.int (sf (0 : Int32))), (.ref v)])) (fun tT kK => ?_) ?_
  · show Steps pP.tables eE below (T4_.setTop (mkF mM 21 #[.val (.ref a), .val (.int (0 : Int32)), .val (.int (sf (0 : Int32)))] [(.ref v)])) tT
    refine XS.iloadN X4_.here hx rfl (Jvm.hb hby own_d5_21) rfl ?_
    show Steps pP.tables eE below (T4_.setTop (mkF mM 22 #[.val (.ref a), .val (.int (0 : Int32)), .val (.int (sf (0 : Int32)))] [(.int (sf (0 : Int32))), (.ref v)])) tT
    refine XS.dconst0 X4_.here hx rfl (Jvm.hb hby own_d5_22) (v := (0 : UInt64)) rfl ?_
    show Steps pP.tables eE below (T4_.setTop (mkF mM 23 #[.val (.ref a), .val (.int (0 : Int32)), .val (.int (sf (0 : Int32)))] [(.double (0 : UInt64)), (.int (sf (0 : Int32))), (.ref v)])) tT
    exact kK
  obtain ⟨cl5_, Ar5_, Sz5_, Nn5_, Hh5_⟩ := id T0
  have hin5_ : ¬ ((sf (0 : Int32)) < 0 ∨ cl5_.slots.size ≤ ((sf (0 : Int32))).toNatClampNeg) := inb_of Sz5_ hs0.1
  obtain ⟨T5_, h5_, X5_, e5_, W5_, st5_⟩ := stD X4_ hx hZ e4_ Ar5_ (j := (sf (0 : Int32))) hin5_ (g := (mkF mM 23 #[.val (.ref a), .val (.int (0 : Int32)), .val (.int (sf (0 : Int32)))] [(.double (0 : UInt64)), (.int (sf (0 : Int32))), (.ref v)])) rfl rfl (Jvm.hb hby own_d5_23)
  have U5_ : own_TD Z h5_ v z (own_upD vf (sf (0 : Int32)) (0 : UInt64)) := own_TD.set ⟨cl5_, Ar5_, Sz5_, Nn5_, Hh5_⟩ W5_ hs0.1
  have fc6_ := Ea.wr W5_
  have fc7_ := F0.other W5_ (Or.inl (Ne.symm nav))
  have fc8_ := F1.other W5_ (Or.inl (Ne.symm nav))
  have fc9_ := F2.other W5_ (Or.inl (Ne.symm nav))
  have fc10_ := F3.other W5_ (Or.inl (Ne.symm nav))
  have fc11_ := Fc.other W5_ (Or.inl (Ne.symm nav))
  have fc12_ := T1.other W5_ (Ne.symm nvg)
  have fc13_ := T2.other W5_ (Ne.symm nvs)
  have fc14_ := T3.other W5_ (Ne.symm nvb)
  have K5_ := K0.wr W5_ (Or.inl (List.mem_of_getElem? (i := 1) rfl))
  have N5_ := Fr.snoc X5_ N0 gv
  refine own_fin st5_ ?_
  show own_Fin pP eE below _ (T5_.setTop (mkF mM 24 #[.val (.ref a), .val (.int (0 : Int32)), .val (.int (sf (0 : Int32)))] []))
  refine own_fin (b := T5_.setTop (mkF mM 25 #[.val (.ref a), .val (.int (0 : Int32)), .val (.int (sf (0 : Int32)))] [(.ref a)])) (fun tT kK => ?_) ?_
  · show Steps pP.tables eE below (T5_.setTop (mkF mM 24 #[.val (.ref a), .val (.int (0 : Int32)), .val (.int (sf (0 : Int32)))] [])) tT
    refine XS.aloadN X5_.here hx rfl (Jvm.hb hby own_d5_24) rfl rfl ?_
    show Steps pP.tables eE below (T5_.setTop (mkF mM 25 #[.val (.ref a), .val (.int (0 : Int32)), .val (.int (sf (0 : Int32)))] [(.ref a)])) tT
    exact kK
  obtain ⟨T15_, X15_, e15_, st15_⟩ := getF X5_ hx hZ hown (host := "") (Or.inl (hw _ (List.mem_of_getElem? (i := 14) rfl))) Via.refl e5_ fc8_ (g := (mkF mM 25 #[.val (.ref a), .val (.int (0 : Int32)), .val (.int (sf (0 : Int32)))] [(.ref a)])) rfl rfl (Jvm.hb hby own_d5_25)
  refine own_fin st15_ ?_
  show own_Fin pP eE below _ (T15_.setTop (mkF mM 28 #[.val (.ref a), .val (.int (0 : Int32)), .val (.int (sf (0 : Int32)))] [(.ref g)]))
  refine own_fin (b := T15_.setTop (mkF mM 30 #[.val (.ref a), .val (.int (0 : Int32)), .val (.int (sf (0 : Int32)))] [(.double (0 : UInt64)), (.int (sf (0 : Int32))), (.ref g)])) (fun tT kK => ?_) ?_
  · show Steps pP.tables eE below (T15_.setTop (mkF mM 28 #[.val (.ref a), .val (.int (0 : Int32)), .val (.int (sf (0 : Int32)))] [(.ref g)])) tT
    refine XS.iloadN X15_.here hx rfl (Jvm.hb hby own_d5_28) rfl ?_
    show Steps pP.tables eE below (T15_.setTop (mkF mM 29 #[.val (.ref a), .val (.int (0 : Int32)), .val (.int (sf (0 : Int32)))] [(.int (sf (0 : Int32))), (.ref g)])) tT
    refine XS.dconst0 X15_.here hx rfl (Jvm.hb hby own_d5_29) (v := (0 : UInt64)) rfl ?_
    show Steps pP.tables eE below (T15_.setTop (mkF mM 30 #[.val (.ref a), .val (.int (0 : Int32)), .val (.int (sf (0 : Int32)))] [(.double (0 : UInt64)), (.int (sf (0 : Int32))), (.ref g)])) tT
    exact kK
  obtain ⟨cl16_, Ar16_, Sz16_, Nn16_, Hh16_⟩ := id fc12_
  have hin16_ : ¬ ((sf (0 : Int32)) < 0 ∨ cl16_.slots.size ≤ ((sf (0 : Int32))).toNatClampNeg) := inb_of Sz16_ hs0.1
  obtain ⟨T16_, h16_, X16_, e16_, W16_, st16_⟩ := stD X15_ hx hZ e15_ Ar16_ (j := (sf (0 : Int32))) hin16_ (g := (mkF mM 30 #[.val (.ref a), .val (.int (0 : Int32)), .val (.int (sf (0 : Int32)))] [(.double (0 : UInt64)), (.int (sf (0 : Int32))), (.ref g)])) rfl rfl (Jvm.hb hby own_d5_30)
  have U16_ : own_TD Z h16_ g z (own_upD gf (sf (0 : Int32)) (0 : UInt64)) := own_TD.set ⟨cl16_, Ar16_, Sz16_, Nn16_, Hh16_⟩ W16_ hs0.1
  have fc17_ := fc6_.wr W16_
  have fc18_ := fc7_.other W16_ (Or.inl (Ne.symm nag))
  have fc19_ := fc8_.other W16_ (Or.inl (Ne.symm nag))
  have fc20_ := fc9_.other W16_ (Or.inl (Ne.symm nag))
  have fc21_ := fc10_.other W16_ (Or.inl (Ne.symm nag))
  have fc22_ := fc11_.other W16_ (Or.inl (Ne.symm nag))
  have fc23_ := U5_.other W16_ nvg
  have fc24_ := fc13_.other W16_ (Ne.symm ngs)
  have fc25_ := fc14_.other W16_ (Ne.symm ngb)
  have K16_ := K5_.wr W16_ (Or.inl (List.mem_of_getElem? (i := 2) rfl))
  have N16_ := Fr.snoc X16_ N5_ gg
  refine own_fin st16_ ?_
  show own_Fin pP eE below _ (T16_.setTop (mkF mM 31 #[.val (.ref a), .val (.int (0 : Int32)), .val (.int (sf (0 : Int32)))] []))
  refine own_fin (b := T16_.setTop (mkF mM 32 #[.val (.ref a), .val (.int (0 : Int32)), .val (.int (sf (0 : Int32)))] [(.ref a)])) (fun tT kK => ?_) ?_
  · show Steps pP.tables eE below (T16_.setTop (mkF mM 31 #[.val (.ref a), .val (.int (0 : Int32)), .val (.int (sf (0 : Int32)))] [])) tT
    refine XS.aloadN X16_.here hx rfl (Jvm.hb hby own_d5_31) rfl rfl ?_
    show Steps pP.tables eE below (T16_.setTop (mkF mM 32 #[.val (.ref a), .val (.int (0 : Int32)), .val (.int (sf (0 : Int32)))] [(.ref a)])) tT
    exact kK
  obtain ⟨T26_, X26_, e26_, st26_⟩ := getF X16_ hx hZ hown (host := "") (Or.inl (hw _ (List.mem_of_getElem? (i := 20) rfl))) Via.refl e16_ fc21_ (g := (mkF mM 32 #[.val (.ref a), .val (.int (0 : Int32)), .val (.int (sf (0 : Int32)))] [(.ref a)])) rfl rfl (Jvm.hb hby own_d5_32)
  refine own_fin st26_ ?_
  show own_Fin pP eE below _ (T26_.setTop (mkF mM 35 #[.val (.ref a), .val (.int (0 : Int32)), .val (.int (sf (0 : Int32)))] [(.ref b)]))
  refine own_fin (b := T26_.setTop (mkF mM 37 #[.val (.ref a), .val (.int (0 : Int32)), .val (.int (sf (0 : Int32)))] [(.int (0 : Int32)), (.int (sf (0 : Int32))), (.ref b)])) (fun tT kK => ?_) ?_
  · show Steps pP.tables eE below (T26_.setTop (mkF mM 35 #[.val (.ref a), .val (.int (0 : Int32)), .val (.int (sf (0 : Int32)))] [(.ref b)])) tT
    refine XS.iloadN X26_.here hx rfl (Jvm.hb hby own_d5_35) rfl ?_
    show Steps pP.tables eE below (T26_.setTop (mkF mM 36 #[.val (.ref a), .val (.int (0 : Int32)), .val (.int (sf (0 : Int32)))] [(.int (sf (0 : Int32))), (.ref b)])) tT
    refine XS.iconst X26_.here hx rfl (Jvm.hb hby own_d5_36) ?_
    show Steps pP.tables eE below (T26_.setTop (mkF mM 37 #[.val (.ref a), .val (.int (0 : Int32)), .val (.int (sf (0 : Int32)))] [(.int (0 : Int32)), (.int (sf (0 : Int32))), (.ref b)])) tT
    exact kK
  obtain ⟨cl27_, Ar27_, Sz27_, Nn27_, Hh27_⟩ := id fc25_
  have hin27_ : ¬ ((sf (0 : Int32)) < 0 ∨ cl27_.slots.size ≤ ((sf (0 : Int32))).toNatClampNeg) := inb_of Sz27_ hs0.1
  obtain ⟨T27_, h27_, X27_, e27_, W27_, st27_⟩ := stZ X26_ hx hZ e26_ Ar27_ (j := (sf (0 : Int32))) hin27_ (g := (mkF mM 37 #[.val (.ref a), .val (.int (0 : Int32)), .val (.int (sf (0 : Int32)))] [(.int (0 : Int32)), (.int (sf (0 : Int32))), (.ref b)])) rfl rfl (Jvm.hb hby own_d5_37)
  have U27_ : own_T Z h27_ b .boolean z (own_up bf (sf (0 : Int32)) (nar .boolean (0 : Int32))) := own_T.set ⟨cl27_, Ar27_, Sz27_, Nn27_, Hh27_⟩ W27_ hs0.1
  have fc28_ := fc17_.wr W27_
  have fc29_ := fc18_.other W27_ (Or.inl (Ne.symm nab))
  have fc30_ := fc19_.other W27_ (Or.inl (Ne.symm nab))
  have fc31_ := fc20_.other W27_ (Or.inl (Ne.symm nab))
  have fc32_ := fc21_.other W27_ (Or.inl (Ne.symm nab))
  have fc33_ := fc22_.other W27_ (Or.inl (Ne.symm nab))
  have fc34_ := fc23_.other W27_ nvb
  have fc35_ := U16_.other W27_ ngb
  have fc36_ := fc24_.other W27_ nsb
  have K27_ := K16_.wr W27_ (Or.inl (List.mem_of_getElem? (i := 4) rfl))
  have N27_ := Fr.snoc X27_ N16_ gb
  refine own_fin st27_ ?_
  show own_Fin pP eE below _ (T27_.setTop (mkF mM 38 #[.val (.ref a), .val (.int (0 : Int32)), .val (.int (sf (0 : Int32)))] []))
  refine own_fin (b := T27_.setTop (mkF mM 4 #[.val (.ref a), .val (.int (1 : Int32)), .val (.int (sf (0 : Int32)))] [(.ref a), (.int (1 : Int32))])) (fun tT kK => ?_) ?_
  · show Steps pP.tables eE below (T27_.setTop (mkF mM 38 #[.val (.ref a), .val (.int (0 : Int32)), .val (.int (sf (0 : Int32)))] [])) tT
    refine XS.iinc X27_.here hx rfl (Jvm.hb hby own_d5_38) rfl (l' := #[.val (.ref a), .val (.int (1 : Int32)), .val (.int (sf (0 : Int32)))]) rfl ?_
    show Steps pP.tables eE below (T27_.setTop (mkF mM 41 #[.val (.ref a), .val (.int (1 : Int32)), .val (.int (sf (0 : Int32)))] [])) tT
    refine XS.goto X27_.here hx rfl (pc0 := 41) (pc' := 2) rfl (Jvm.hb hby own_d5_41) (by decide) (by decide) ?_
    show Steps pP.tables eE below (T27_.setTop (mkF mM 2 #[.val (.ref a), .val (.int (1 : Int32)), .val (.int (sf (0 : Int32)))] [])) tT
    refine XS.iloadN X27_.here hx rfl (Jvm.hb hby own_d5_2) rfl ?_
    show Steps pP.tables eE below (T27_.setTop (mkF mM 3 #[.val (.ref a), .val (.int (1 : Int32)), .val (.int (sf (0 : Int32)))] [(.int (1 : Int32))])) tT
    refine XS.aloadN X27_.here hx rfl (Jvm.hb hby own_d5_3) rfl rfl ?_
    show Steps pP.tables eE below (T27_.setTop (mkF mM 4 #[.val (.ref a), .val (.int (1 : Int32)), .val (.int (sf (0 : Int32)))] [(.ref a), (.int (1 : Int32))])) tT
    exact kK
  obtain ⟨T37_, X37_, e37_, st37_⟩ := getF X27_ hx hZ hown (host := "") (Or.inl (hw _ (List.mem_of_getElem? (i := 27) rfl))) Via.refl e27_ fc33_ (g := (mkF mM 4 #[.val (.ref a), .val (.int (1 : Int32)), .val (.int (sf (0 : Int32)))] [(.ref a), (.int (1 : Int32))])) rfl rfl (Jvm.hb hby own_d5_4)
  refine own_fin st37_ ?_
  show own_Fin pP eE below _ (T37_.setTop (mkF mM 7 #[.val (.ref a), .val (.int (1 : Int32)), .val (.int (sf (0 : Int32)))] [(.int (1 : Int32)), (.int (1 : Int32))]))
  refine own_fin (b := T37_.setTop (mkF mM 44 #[.val (.ref a), .val (.int (1 : Int32)), .val (.int (sf (0 : Int32)))] [])) (fun tT kK => ?_) ?_
  · show Steps pP.tables eE below (T37_.setTop (mkF mM 7 #[.val (.ref a), .val (.int (1 : Int32)), .val (.int (sf (0 : Int32)))] [(.int (1 : Int32)), (.int (1 : Int32))])) tT
    refine XS.icmpYes X37_.here hx rfl (pc0 := 7) (pc' := 44) rfl (Jvm.hb hby own_d5_7) rfl (flt ((by decide) : ¬ ((1 : Int32) < (1 : Int32)))).2.1 (by decide) (by decide) ?_
    show Steps pP.tables eE below (T37_.setTop (mkF mM 44 #[.val (.ref a), .val (.int (1 : Int32)), .val (.int (sf (0 : Int32)))] [])) tT
    exact kK
  have Zv_ : own_TD Z h27_ v z (fun _ => (0 : UInt64)) := fc34_.congr (fun j hj => own_cl1D (fun h0 => (hI j hj h0).2.1))
  have Zg_ : own_TD Z h27_ g z (fun _ => (0 : UInt64)) := fc35_.congr (fun j hj => own_cl1D (fun h0 => (hI j hj h0).2.2))
  have Zb_ : own_T Z h27_ b .boolean z (fun _ => (0 : Int32)) := U27_.congr (fun j hj => own_cl1 (fun h0 => (hI j hj h0).1))
  refine own_fin (b := T37_.setTop (mkF mM 46 #[.val (.ref a), .val (.int (1 : Int32)), .val (.int (sf (0 : Int32)))] [(.int (0 : Int32)), (.ref a)])) (fun tT kK => ?_) ?_
  · show Steps pP.tables eE below (T37_.setTop (mkF mM 44 #[.val (.ref a), .val (.int (1 : Int32)), .val (.int (sf (0 : Int32)))] [])) tT
    refine XS.aloadN X37_.here hx rfl (Jvm.hb hby own_d5_44) rfl rfl ?_
    show Steps pP.tables eE below (T37_.setTop (mkF mM 45 #[.val (.ref a), .val (.int (1 : Int32)), .val (.int (sf (0 : Int32)))] [(.ref a)])) tT
    refine XS.iconst X37_.here hx rfl (Jvm.hb hby own_d5_45) ?_
    show Steps pP.tables eE below (T37_.setTop (mkF mM 46 #[.val (.ref a), .val (.int (1 : Int32)), .val (.int (sf (0 : Int32)))] [(.int (0 : Int32)), (.ref a)])) tT
    exact kK
  obtain ⟨T38_, h38_, X38_, e38_, W38_, st38_⟩ := putF X37_ hx hZ hown (host := "") (Or.inl (hw _ (List.mem_of_getElem? (i := 27) rfl))) Via.refl e37_ fc33_ fc28_ (Or.inl (hw _ (List.mem_of_getElem? (i := 28) rfl))) (hw _ (List.mem_of_getElem? (i := 3) rfl)) (ty := .int) (by decide) rfl rfl (g := (mkF mM 46 #[.val (.ref a), .val (.int (1 : Int32)), .val (.int (sf (0 : Int32)))] [(.int (0 : Int32)), (.ref a)])) rfl rfl (Jvm.hb hby own_d5_46)
  have Fw38_ := fc33_.same W38_
  have fc39_ := fc28_.wr W38_
  have fc40_ := fc29_.other W38_ (Or.inr (slot_ne (Or.inr (hw _ (List.mem_of_getElem? (i := 13) rfl))) (Or.inl (hw _ (List.mem_of_getElem? (i := 28) rfl))) (by decide) (t := (.array .double)) (t' := .int) (by decide) (by decide)))
  have fc41_ := fc30_.other W38_ (Or.inr (slot_ne (Or.inr (hw _ (List.mem_of_getElem? (i := 15) rfl))) (Or.inl (hw _ (List.mem_of_getElem? (i := 28) rfl))) (by decide) (t := (.array .double)) (t' := .int) (by decide) (by decide)))
  have fc42_ := fc31_.other W38_ (Or.inr (slot_ne (Or.inr (hw _ (List.mem_of_getElem? (i := 18) rfl))) (Or.inl (hw _ (List.mem_of_getElem? (i := 28) rfl))) (by decide) (t := (.array .int)) (t' := .int) (by decide) (by decide)))
  have fc43_ := fc32_.other W38_ (Or.inr (slot_ne (Or.inr (hw _ (List.mem_of_getElem? (i := 21) rfl))) (Or.inl (hw _ (List.mem_of_getElem? (i := 28) rfl))) (by decide) (t := (.array .boolean)) (t' := .int) (by decide) (by decide)))
  have fc44_ := Zv_.other W38_ nav
  have fc45_ := Zg_.other W38_ nag
  have fc46_ := fc36_.other W38_ nas
  have fc47_ := Zb_.other W38_ nab
  have K38_ := K27_.wr W38_ (Or.inl (List.mem_of_getElem? (i := 0) rfl))
  have N38_ := Fr.snoc X38_ N27_ ga
  refine own_fin st38_ ?_
  show own_Fin pP eE below _ (T38_.setTop (mkF mM 49 #[.val (.ref a), .val (.int (1 : Int32)), .val (.int (sf (0 : Int32)))] []))
  obtain ⟨fs, hr, hrun, hended, hW, hsame⟩ := X38_.leave (v := none) (fun _ => rfl)
  refine ⟨_, _, ?_, hrun, hended, _, _, rfl, ?_, ⟨_, rfl⟩, hW, hsame.mono (by decide) (by decide)⟩
  · show Steps pP.tables eE below (T38_.setTop (mkF mM 49 #[.val (.ref a), .val (.int (1 : Int32)), .val (.int (sf (0 : Int32)))] [])) _
    exact X38_.returnOut hx Bd.returns (Jvm.hb hby own_d5_49) hr
  · show Q_rm_clr1 Z a v g s b z vf gf sf bf h0 n0 _ T38_.heap _
    rw [e38_]
    exact ⟨rfl, N38_, K38_, fc39_, fc40_, fc41_, fc42_, fc43_, Fw38_, fc44_, fc45_, fc46_, fc47_⟩
theorem own_ef_rm_clr2 (mM : MethodId) (x0 : Addr) : entryFrame mM #[(.ref x0)] 3 = mkF mM 0 #[.val (.ref x0), .unset, .unset] [] := by first | (simp [entryFrame, mkF, argsToLocals, Value.category]; done) | rfl
def Q_rm_clr2 (Z : State) (a : Addr) (v : Addr) (g : Addr) (s : Addr) (b : Addr) (z : Int32) (vf : Int32 → UInt64) (gf : Int32 → UInt64) (sf : Int32 → Int32) (bf : Int32 → Int32) (h0 : Heap) (n0 : Nat) (vV : Option Value) (hH : Heap) (lA : List Loc) : Prop := vV = none ∧ Fr n0 lA ∧ (Keep h0 hH [a, v, g, s, b]) ∧ (Exa Z hH a "com/example/chains_to_rank/chainstorank/ranker/Scores") ∧ (Fld Z hH a "com/example/chains_to_rank/chainstorank/ranker/Scores" "values" "[D" (.ref v)) ∧ (Fld Z hH a "com/example/chains_to_rank/chainstorank/ranker/Scores" "magnitudes" "[D" (.ref g)) ∧ (Fld Z hH a "com/example/chains_to_rank/chainstorank/ranker/Scores" "scored" "[I" (.ref s)) ∧ (Fld Z hH a "com/example/chains_to_rank/chainstorank/ranker/Scores" "isScored" "[Z" (.ref b)) ∧ (Fld Z hH a "com/example/chains_to_rank/chainstorank/ranker/Scores" "scoredCount" "I" (.int (0 : Int32))) ∧ (own_TD Z hH v z (fun _ => (0 : UInt64))) ∧ (own_TD Z hH g z (fun _ => (0 : UInt64))) ∧ (own_T Z hH s .int z sf) ∧ (own_T Z hH b .boolean z (fun _ => (0 : Int32)))
set_option maxRecDepth 65536 in
set_option maxHeartbeats 40000000 in
theorem rm_clr2 (lL : Launch) (Z : State) (a0 : Array Value) (hw : ∀ d ∈ tables_1, d.before a0 Z = true) (ws : List Jvm.Cond) (a : Addr) (v : Addr) (g : Addr) (s : Addr) (b : Addr) (z : Int32) (vf : Int32 → UInt64) (gf : Int32 → UInt64) (sf : Int32 → Int32) (bf : Int32 → Int32) (h0 : Heap) (n0 : Nat) (Z0 : n0 ≤ h0.size) (Ea : Exa Z h0 a "com/example/chains_to_rank/chainstorank/ranker/Scores") (F0 : Fld Z h0 a "com/example/chains_to_rank/chainstorank/ranker/Scores" "values" "[D" (.ref v)) (F1 : Fld Z h0 a "com/example/chains_to_rank/chainstorank/ranker/Scores" "magnitudes" "[D" (.ref g)) (F2 : Fld Z h0 a "com/example/chains_to_rank/chainstorank/ranker/Scores" "scored" "[I" (.ref s)) (F3 : Fld Z h0 a "com/example/chains_to_rank/chainstorank/ranker/Scores" "isScored" "[Z" (.ref b)) (Fc : Fld Z h0 a "com/example/chains_to_rank/chainstorank/ranker/Scores" "scoredCount" "I" (.int (2 : Int32))) (T0 : own_TD Z h0 v z vf) (T1 : own_TD Z h0 g z gf) (T2 : own_T Z h0 s .int z sf) (T3 : own_T Z h0 b .boolean z bf) (ga : n0 ≤ a) (gv : n0 ≤ v) (gg : n0 ≤ g) (gs : n0 ≤ s) (gb : n0 ≤ b) (nvg : v ≠ g) (nvs : v ≠ s) (nvb : v ≠ b) (ngs : g ≠ s) (ngb : g ≠ b) (nsb : s ≠ b) (nav : v ≠ a) (nag : g ≠ a) (nas : s ≠ a) (nab : b ≠ a) (hI : ∀ j : Int32, ¬ j < 0 ∧ j < z → ¬ (sf (0 : Int32) = j) → ¬ (sf (1 : Int32) = j) → bf j = (0 : Int32) ∧ vf j = (0 : UInt64) ∧ gf j = (0 : UInt64)) (hs0 : (¬ (sf (0 : Int32)) < 0 ∧ (sf (0 : Int32)) < z) ∧ (0 : Int32) < z) (hs1 : (¬ (sf (1 : Int32)) < 0 ∧ (sf (1 : Int32)) < z) ∧ (1 : Int32) < z) :
    MetFree lL (⟨"com/example/chains_to_rank/chainstorank/ranker/Scores", "clear", "()V"⟩ : MethodName) (head1 (Jvm.Cond.code (⟨"com/example/chains_to_rank/chainstorank/ranker/Scores", "clear", "()V"⟩ : MethodName) prog_88_method_11_code 3 none :: ws) ({ frames := 0, cells := 0, slots := 0, locals := 0 } : Room)) (fun aA uU => aA = #[(.ref a)] ∧ Z.Warmed39 uU.vm ∧ uU.heap = h0) (fun _ _ _ _ _ => True) (fun _ uU oO uU' => ∃ vV lA, oO = .returned vV ∧ Q_rm_clr2 Z a v g s b z vf gf sf bf h0 n0 vV uU'.heap lA ∧ FrameEnd uU oO uU' lA ({ frames := 0, cells := 0, slots := 0, locals := 0 } : Room).cells ({ frames := 0, cells := 0, slots := 0, locals := 0 } : Room).slots) := by
  refine MetFree.of_bodySF (plainFor_of_name own_pn_com_example_chains_to_rank_chainstorank_ranker_Scores) hisR ?_
  intro pP eE sS mM args below meth cC s₁ Bd hml0 hP hK
  obtain ⟨rfl, hZ, hh⟩ := hP
  have hx := Bd.exec
  have hby := Bd.bytes
  have hml : cC.maxLocals = 3 := hml0
  have hown : sS.vm.findClass "com/example/chains_to_rank/chainstorank/ranker/Scores" = some mM.cls := findClass_of_methodNamed Bd.named
  have hnm := (name_of_methodNamed Bd.named Bd.method).1
  have X0 : Stand pP lL eE ({ frames := 0, cells := 0, slots := 0, locals := 0 } : Room) sS mM #[(.ref a)] below meth cC s₁ [] 0 0 := Stand.of_body Bd
  have e0 : s₁.heap = h0 := by rw [← hh, Bd.state]; rfl
  have N0 := Fr.nil n0
  have K0 := Keep.refl h0 [a, v, g, s, b]
  show own_Fin pP eE below (fun tT oO => ∃ vV lA, oO = .returned vV ∧ Q_rm_clr2 Z a v g s b z vf gf sf bf h0 n0 vV tT.heap lA ∧ FrameEnd sS oO tT lA ({ frames := 0, cells := 0, slots := 0, locals := 0 } : Room).cells ({ frames := 0, cells := 0, slots := 0, locals := 0 } : Room).slots) (s₁.setTop (entryFrame mM #[(.ref a)] 3))
  refine own_fin (b := s₁.setTop (mkF mM 0 #[.val (.ref a), .unset, .unset] [])) (fun tT kK => castTop (own_ef_rm_clr2 mM a) kK) ?_
  refine own_fin (b := s₁.setTop (mkF mM 4 #[.val (.ref a), .val (.int (0 : Int32)), .unset] [(.ref a), (.int (0 : Int32))])) (fun tT kK => ?_) ?_
  · show Steps pP.tables eE below (s₁.setTop (mkF mM 0 #[.val (.ref a), .unset, .unset] [])) tT
    refine XS.iconst X0.here hx rfl (Jvm.hb hby own_d5_0) ?_
    show Steps pP.tables eE below (s₁.setTop (mkF mM 1 #[.val (.ref a), .unset, .unset] [(.int (0 : Int32))])) tT
    refine XS.istoreN X0.here hx rfl (Jvm.hb hby own_d5_1) rfl (l' := #[.val (.ref a), .val (.int (0 : Int32)), .unset]) rfl ?_
    show Steps pP.tables eE below (s₁.setTop (mkF mM 2 #[.val (.ref a), .val (.int (0 : Int32)), .unset] [])) tT
    refine XS.iloadN X0.here hx rfl (Jvm.hb hby own_d5_2) rfl ?_
    show Steps pP.tables eE below (s₁.setTop (mkF mM 3 #[.val (.ref a), .val (.int (0 : Int32)), .unset] [(.int (0 : Int32))])) tT
    refine XS.aloadN X0.here hx rfl (Jvm.hb hby own_d5_3) rfl rfl ?_
    show Steps pP.tables eE below (s₁.setTop (mkF mM 4 #[.val (.ref a), .val (.int (0 : Int32)), .unset] [(.ref a), (.int (0 : Int32))])) tT
    exact kK
  obtain ⟨T1_, X1_, e1_, st1_⟩ := getF X0 hx hZ hown (host := "") (Or.inl (hw _ (List.mem_of_getElem? (i := 27) rfl))) Via.refl e0 Fc (g := (mkF mM 4 #[.val (.ref a), .val (.int (0 : Int32)), .unset] [(.ref a), (.int (0 : Int32))])) rfl rfl (Jvm.hb hby own_d5_4)
  refine own_fin st1_ ?_
  show own_Fin pP eE below _ (T1_.setTop (mkF mM 7 #[.val (.ref a), .val (.int (0 : Int32)), .unset] [(.int (2 : Int32)), (.int (0 : Int32))]))
  refine own_fin (b := T1_.setTop (mkF mM 11 #[.val (.ref a), .val (.int (0 : Int32)), .unset] [(.ref a)])) (fun tT kK => ?_) ?_
  · show Steps pP.tables eE below (T1_.setTop (mkF mM 7 #[.val (.ref a), .val (.int (0 : Int32)), .unset] [(.int (2 : Int32)), (.int (0 : Int32))])) tT
    refine XS.icmpNo X1_.here hx rfl (Jvm.hb hby own_d5_7) rfl (tlt ((by decide) : (0 : Int32) < (2 : Int32))).2.1 ?_
    show Steps pP.tables eE below (T1_.setTop (mkF mM 10 #[.val (.ref a), .val (.int (0 : Int32)), .unset] [])) tT
    refine XS.aloadN X1_.here hx rfl (Jvm.hb hby own_d5_10) rfl rfl ?_
    show Steps pP.tables eE below (T1_.setTop (mkF mM 11 #[.val (.ref a), .val (.int (0 : Int32)), .unset] [(.ref a)])) tT
    exact kK
  obtain ⟨T2_, X2_, e2_, st2_⟩ := getF X1_ hx hZ hown (host := "") (Or.inl (hw _ (List.mem_of_getElem? (i := 17) rfl))) Via.refl e1_ F2 (g := (mkF mM 11 #[.val (.ref a), .val (.int (0 : Int32)), .unset] [(.ref a)])) rfl rfl (Jvm.hb hby own_d5_11)
  refine own_fin st2_ ?_
  show own_Fin pP eE below _ (T2_.setTop (mkF mM 14 #[.val (.ref a), .val (.int (0 : Int32)), .unset] [(.ref s)]))
  refine own_fin (b := T2_.setTop (mkF mM 15 #[.val (.ref a), .val (.int (0 : Int32)), .unset] [(.int (0 : Int32)), (.ref s)])) (fun tT kK => ?_) ?_
  · show Steps pP.tables eE below (T2_.setTop (mkF mM 14 #[.val (.ref a), .val (.int (0 : Int32)), .unset] [(.ref s)])) tT
    refine XS.iloadN X2_.here hx rfl (Jvm.hb hby own_d5_14) rfl ?_
    show Steps pP.tables eE below (T2_.setTop (mkF mM 15 #[.val (.ref a), .val (.int (0 : Int32)), .unset] [(.int (0 : Int32)), (.ref s)])) tT
    exact kK
  obtain ⟨cl3_, Ar3_, Sz3_, Nn3_, Hh3_⟩ := id T2
  have hin3_ : ¬ ((0 : Int32) < 0 ∨ cl3_.slots.size ≤ ((0 : Int32)).toNatClampNeg) := inb_of Sz3_ ⟨by decide, hs0.2⟩
  have hat3_ : cl3_.slots[((0 : Int32)).toNatClampNeg]? = some (.int (sf (0 : Int32))) := Hh3_ _ hin3_
  refine own_fin (b := T2_.setTop (mkF mM 18 #[.val (.ref a), .val (.int (0 : Int32)), .val (.int (sf (0 : Int32)))] [(.ref a)])) (fun tT kK => ?_) ?_
  · show Steps pP.tables eE below (T2_.setTop (mkF mM 15 #[.val (.ref a), .val (.int (0 : Int32)), .unset] [(.int (0 : Int32)), (.ref s)])) tT
    refine X2_.iaload hx (j := (0 : Int32)) (v := (.int (sf (0 : Int32)))) (own_rw e2_ Ar3_.1) (State.isArrayOf_alike hZ.alike Ar3_.2.1) Ar3_.2.2 hin3_ hat3_ (g := (mkF mM 15 #[.val (.ref a), .val (.int (0 : Int32)), .unset] [(.int (0 : Int32)), (.ref s)])) rfl rfl (Jvm.hb hby own_d5_15) _ ?_
    show Steps pP.tables eE below (T2_.setTop (mkF mM 16 #[.val (.ref a), .val (.int (0 : Int32)), .unset] [(.int (sf (0 : Int32)))])) tT
    refine XS.istoreN X2_.here hx rfl (Jvm.hb hby own_d5_16) rfl (l' := #[.val (.ref a), .val (.int (0 : Int32)), .val (.int (sf (0 : Int32)))]) rfl ?_
    show Steps pP.tables eE below (T2_.setTop (mkF mM 17 #[.val (.ref a), .val (.int (0 : Int32)), .val (.int (sf (0 : Int32)))] [])) tT
    refine XS.aloadN X2_.here hx rfl (Jvm.hb hby own_d5_17) rfl rfl ?_
    show Steps pP.tables eE below (T2_.setTop (mkF mM 18 #[.val (.ref a), .val (.int (0 : Int32)), .val (.int (sf (0 : Int32)))] [(.ref a)])) tT
    exact kK
  obtain ⟨T4_, X4_, e4_, st4_⟩ := getF X2_ hx hZ hown (host := "") (Or.inl (hw _ (List.mem_of_getElem? (i := 12) rfl))) Via.refl e2_ F0 (g := (mkF mM 18 #[.val (.ref a), .val (.int (0 : Int32)), .val (.int (sf (0 : Int32)))] [(.ref a)])) rfl rfl (Jvm.hb hby own_d5_18)
  refine own_fin st4_ ?_
  show own_Fin pP eE below _ (T4_.setTop (mkF mM 21 #[.val (.ref a), .val (.int (0 : Int32)), .val (.int (sf (0 : Int32)))] [(.ref v)]))
  refine own_fin (b := T4_.setTop (mkF mM 23 #[.val (.ref a), .val (.int (0 : Int32)), .val (.int (sf (0 : Int32)))] [(.double (0 : UInt64)), (.int (sf (0 : Int32))), (.ref v)])) (fun tT kK => ?_) ?_
  · show Steps pP.tables eE below (T4_.setTop (mkF mM 21 #[.val (.ref a), .val (.int (0 : Int32)), .val (.int (sf (0 : Int32)))] [(.ref v)])) tT
    refine XS.iloadN X4_.here hx rfl (Jvm.hb hby own_d5_21) rfl ?_
    show Steps pP.tables eE below (T4_.setTop (mkF mM 22 #[.val (.ref a), .val (.int (0 : Int32)), .val (.int (sf (0 : Int32)))] [(.int (sf (0 : Int32))), (.ref v)])) tT
    refine XS.dconst0 X4_.here hx rfl (Jvm.hb hby own_d5_22) (v := (0 : UInt64)) rfl ?_
    show Steps pP.tables eE below (T4_.setTop (mkF mM 23 #[.val (.ref a), .val (.int (0 : Int32)), .val (.int (sf (0 : Int32)))] [(.double (0 : UInt64)), (.int (sf (0 : Int32))), (.ref v)])) tT
    exact kK
  obtain ⟨cl5_, Ar5_, Sz5_, Nn5_, Hh5_⟩ := id T0
  have hin5_ : ¬ ((sf (0 : Int32)) < 0 ∨ cl5_.slots.size ≤ ((sf (0 : Int32))).toNatClampNeg) := inb_of Sz5_ hs0.1
  obtain ⟨T5_, h5_, X5_, e5_, W5_, st5_⟩ := stD X4_ hx hZ e4_ Ar5_ (j := (sf (0 : Int32))) hin5_ (g := (mkF mM 23 #[.val (.ref a), .val (.int (0 : Int32)), .val (.int (sf (0 : Int32)))] [(.double (0 : UInt64)), (.int (sf (0 : Int32))), (.ref v)])) rfl rfl (Jvm.hb hby own_d5_23)
  have U5_ : own_TD Z h5_ v z (own_upD vf (sf (0 : Int32)) (0 : UInt64)) := own_TD.set ⟨cl5_, Ar5_, Sz5_, Nn5_, Hh5_⟩ W5_ hs0.1
  have fc6_ := Ea.wr W5_
  have fc7_ := F0.other W5_ (Or.inl (Ne.symm nav))
  have fc8_ := F1.other W5_ (Or.inl (Ne.symm nav))
  have fc9_ := F2.other W5_ (Or.inl (Ne.symm nav))
  have fc10_ := F3.other W5_ (Or.inl (Ne.symm nav))
  have fc11_ := Fc.other W5_ (Or.inl (Ne.symm nav))
  have fc12_ := T1.other W5_ (Ne.symm nvg)
  have fc13_ := T2.other W5_ (Ne.symm nvs)
  have fc14_ := T3.other W5_ (Ne.symm nvb)
  have K5_ := K0.wr W5_ (Or.inl (List.mem_of_getElem? (i := 1) rfl))
  have N5_ := Fr.snoc X5_ N0 gv
  refine own_fin st5_ ?_
  show own_Fin pP eE below _ (T5_.setTop (mkF mM 24 #[.val (.ref a), .val (.int (0 : Int32)), .val (.int (sf (0 : Int32)))] []))
  refine own_fin (b := T5_.setTop (mkF mM 25 #[.val (.ref a), .val (.int (0 : Int32)), .val (.int (sf (0 : Int32)))] [(.ref a)])) (fun tT kK => ?_) ?_
  · show Steps pP.tables eE below (T5_.setTop (mkF mM 24 #[.val (.ref a), .val (.int (0 : Int32)), .val (.int (sf (0 : Int32)))] [])) tT
    refine XS.aloadN X5_.here hx rfl (Jvm.hb hby own_d5_24) rfl rfl ?_
    show Steps pP.tables eE below (T5_.setTop (mkF mM 25 #[.val (.ref a), .val (.int (0 : Int32)), .val (.int (sf (0 : Int32)))] [(.ref a)])) tT
    exact kK
  obtain ⟨T15_, X15_, e15_, st15_⟩ := getF X5_ hx hZ hown (host := "") (Or.inl (hw _ (List.mem_of_getElem? (i := 14) rfl))) Via.refl e5_ fc8_ (g := (mkF mM 25 #[.val (.ref a), .val (.int (0 : Int32)), .val (.int (sf (0 : Int32)))] [(.ref a)])) rfl rfl (Jvm.hb hby own_d5_25)
  refine own_fin st15_ ?_
  show own_Fin pP eE below _ (T15_.setTop (mkF mM 28 #[.val (.ref a), .val (.int (0 : Int32)), .val (.int (sf (0 : Int32)))] [(.ref g)]))
  refine own_fin (b := T15_.setTop (mkF mM 30 #[.val (.ref a), .val (.int (0 : Int32)), .val (.int (sf (0 : Int32)))] [(.double (0 : UInt64)), (.int (sf (0 : Int32))), (.ref g)])) (fun tT kK => ?_) ?_
  · show Steps pP.tables eE below (T15_.setTop (mkF mM 28 #[.val (.ref a), .val (.int (0 : Int32)), .val (.int (sf (0 : Int32)))] [(.ref g)])) tT
    refine XS.iloadN X15_.here hx rfl (Jvm.hb hby own_d5_28) rfl ?_
    show Steps pP.tables eE below (T15_.setTop (mkF mM 29 #[.val (.ref a), .val (.int (0 : Int32)), .val (.int (sf (0 : Int32)))] [(.int (sf (0 : Int32))), (.ref g)])) tT
    refine XS.dconst0 X15_.here hx rfl (Jvm.hb hby own_d5_29) (v := (0 : UInt64)) rfl ?_
    show Steps pP.tables eE below (T15_.setTop (mkF mM 30 #[.val (.ref a), .val (.int (0 : Int32)), .val (.int (sf (0 : Int32)))] [(.double (0 : UInt64)), (.int (sf (0 : Int32))), (.ref g)])) tT
    exact kK
  obtain ⟨cl16_, Ar16_, Sz16_, Nn16_, Hh16_⟩ := id fc12_
  have hin16_ : ¬ ((sf (0 : Int32)) < 0 ∨ cl16_.slots.size ≤ ((sf (0 : Int32))).toNatClampNeg) := inb_of Sz16_ hs0.1
  obtain ⟨T16_, h16_, X16_, e16_, W16_, st16_⟩ := stD X15_ hx hZ e15_ Ar16_ (j := (sf (0 : Int32))) hin16_ (g := (mkF mM 30 #[.val (.ref a), .val (.int (0 : Int32)), .val (.int (sf (0 : Int32)))] [(.double (0 : UInt64)), (.int (sf (0 : Int32))), (.ref g)])) rfl rfl (Jvm.hb hby own_d5_30)
  have U16_ : own_TD Z h16_ g z (own_upD gf (sf (0 : Int32)) (0 : UInt64)) := own_TD.set ⟨cl16_, Ar16_, Sz16_, Nn16_, Hh16_⟩ W16_ hs0.1
  have fc17_ := fc6_.wr W16_
  have fc18_ := fc7_.other W16_ (Or.inl (Ne.symm nag))
  have fc19_ := fc8_.other W16_ (Or.inl (Ne.symm nag))
  have fc20_ := fc9_.other W16_ (Or.inl (Ne.symm nag))
  have fc21_ := fc10_.other W16_ (Or.inl (Ne.symm nag))
  have fc22_ := fc11_.other W16_ (Or.inl (Ne.symm nag))
  have fc23_ := U5_.other W16_ nvg
  have fc24_ := fc13_.other W16_ (Ne.symm ngs)
  have fc25_ := fc14_.other W16_ (Ne.symm ngb)
  have K16_ := K5_.wr W16_ (Or.inl (List.mem_of_getElem? (i := 2) rfl))
  have N16_ := Fr.snoc X16_ N5_ gg
  refine own_fin st16_ ?_
  show own_Fin pP eE below _ (T16_.setTop (mkF mM 31 #[.val (.ref a), .val (.int (0 : Int32)), .val (.int (sf (0 : Int32)))] []))
  refine own_fin (b := T16_.setTop (mkF mM 32 #[.val (.ref a), .val (.int (0 : Int32)), .val (.int (sf (0 : Int32)))] [(.ref a)])) (fun tT kK => ?_) ?_
  · show Steps pP.tables eE below (T16_.setTop (mkF mM 31 #[.val (.ref a), .val (.int (0 : Int32)), .val (.int (sf (0 : Int32)))] [])) tT
    refine XS.aloadN X16_.here hx rfl (Jvm.hb hby own_d5_31) rfl rfl ?_
    show Steps pP.tables eE below (T16_.setTop (mkF mM 32 #[.val (.ref a), .val (.int (0 : Int32)), .val (.int (sf (0 : Int32)))] [(.ref a)])) tT
    exact kK
  obtain ⟨T26_, X26_, e26_, st26_⟩ := getF X16_ hx hZ hown (host := "") (Or.inl (hw _ (List.mem_of_getElem? (i := 20) rfl))) Via.refl e16_ fc21_ (g := (mkF mM 32 #[.val (.ref a), .val (.int (0 : Int32)), .val (.int (sf (0 : Int32)))] [(.ref a)])) rfl rfl (Jvm.hb hby own_d5_32)
  refine own_fin st26_ ?_
  show own_Fin pP eE below _ (T26_.setTop (mkF mM 35 #[.val (.ref a), .val (.int (0 : Int32)), .val (.int (sf (0 : Int32)))] [(.ref b)]))
  refine own_fin (b := T26_.setTop (mkF mM 37 #[.val (.ref a), .val (.int (0 : Int32)), .val (.int (sf (0 : Int32)))] [(.int (0 : Int32)), (.int (sf (0 : Int32))), (.ref b)])) (fun tT kK => ?_) ?_
  · show Steps pP.tables eE below (T26_.setTop (mkF mM 35 #[.val (.ref a), .val (.int (0 : Int32)), .val (.int (sf (0 : Int32)))] [(.ref b)])) tT
    refine XS.iloadN X26_.here hx rfl (Jvm.hb hby own_d5_35) rfl ?_
    show Steps pP.tables eE below (T26_.setTop (mkF mM 36 #[.val (.ref a), .val (.int (0 : Int32)), .val (.int (sf (0 : Int32)))] [(.int (sf (0 : Int32))), (.ref b)])) tT
    refine XS.iconst X26_.here hx rfl (Jvm.hb hby own_d5_36) ?_
    show Steps pP.tables eE below (T26_.setTop (mkF mM 37 #[.val (.ref a), .val (.int (0 : Int32)), .val (.int (sf (0 : Int32)))] [(.int (0 : Int32)), (.int (sf (0 : Int32))), (.ref b)])) tT
    exact kK
  obtain ⟨cl27_, Ar27_, Sz27_, Nn27_, Hh27_⟩ := id fc25_
  have hin27_ : ¬ ((sf (0 : Int32)) < 0 ∨ cl27_.slots.size ≤ ((sf (0 : Int32))).toNatClampNeg) := inb_of Sz27_ hs0.1
  obtain ⟨T27_, h27_, X27_, e27_, W27_, st27_⟩ := stZ X26_ hx hZ e26_ Ar27_ (j := (sf (0 : Int32))) hin27_ (g := (mkF mM 37 #[.val (.ref a), .val (.int (0 : Int32)), .val (.int (sf (0 : Int32)))] [(.int (0 : Int32)), (.int (sf (0 : Int32))), (.ref b)])) rfl rfl (Jvm.hb hby own_d5_37)
  have U27_ : own_T Z h27_ b .boolean z (own_up bf (sf (0 : Int32)) (nar .boolean (0 : Int32))) := own_T.set ⟨cl27_, Ar27_, Sz27_, Nn27_, Hh27_⟩ W27_ hs0.1
  have fc28_ := fc17_.wr W27_
  have fc29_ := fc18_.other W27_ (Or.inl (Ne.symm nab))
  have fc30_ := fc19_.other W27_ (Or.inl (Ne.symm nab))
  have fc31_ := fc20_.other W27_ (Or.inl (Ne.symm nab))
  have fc32_ := fc21_.other W27_ (Or.inl (Ne.symm nab))
  have fc33_ := fc22_.other W27_ (Or.inl (Ne.symm nab))
  have fc34_ := fc23_.other W27_ nvb
  have fc35_ := U16_.other W27_ ngb
  have fc36_ := fc24_.other W27_ nsb
  have K27_ := K16_.wr W27_ (Or.inl (List.mem_of_getElem? (i := 4) rfl))
  have N27_ := Fr.snoc X27_ N16_ gb
  refine own_fin st27_ ?_
  show own_Fin pP eE below _ (T27_.setTop (mkF mM 38 #[.val (.ref a), .val (.int (0 : Int32)), .val (.int (sf (0 : Int32)))] []))
  refine own_fin (b := T27_.setTop (mkF mM 4 #[.val (.ref a), .val (.int (1 : Int32)), .val (.int (sf (0 : Int32)))] [(.ref a), (.int (1 : Int32))])) (fun tT kK => ?_) ?_
  · show Steps pP.tables eE below (T27_.setTop (mkF mM 38 #[.val (.ref a), .val (.int (0 : Int32)), .val (.int (sf (0 : Int32)))] [])) tT
    refine XS.iinc X27_.here hx rfl (Jvm.hb hby own_d5_38) rfl (l' := #[.val (.ref a), .val (.int (1 : Int32)), .val (.int (sf (0 : Int32)))]) rfl ?_
    show Steps pP.tables eE below (T27_.setTop (mkF mM 41 #[.val (.ref a), .val (.int (1 : Int32)), .val (.int (sf (0 : Int32)))] [])) tT
    refine XS.goto X27_.here hx rfl (pc0 := 41) (pc' := 2) rfl (Jvm.hb hby own_d5_41) (by decide) (by decide) ?_
    show Steps pP.tables eE below (T27_.setTop (mkF mM 2 #[.val (.ref a), .val (.int (1 : Int32)), .val (.int (sf (0 : Int32)))] [])) tT
    refine XS.iloadN X27_.here hx rfl (Jvm.hb hby own_d5_2) rfl ?_
    show Steps pP.tables eE below (T27_.setTop (mkF mM 3 #[.val (.ref a), .val (.int (1 : Int32)), .val (.int (sf (0 : Int32)))] [(.int (1 : Int32))])) tT
    refine XS.aloadN X27_.here hx rfl (Jvm.hb hby own_d5_3) rfl rfl ?_
    show Steps pP.tables eE below (T27_.setTop (mkF mM 4 #[.val (.ref a), .val (.int (1 : Int32)), .val (.int (sf (0 : Int32)))] [(.ref a), (.int (1 : Int32))])) tT
    exact kK
  obtain ⟨T37_, X37_, e37_, st37_⟩ := getF X27_ hx hZ hown (host := "") (Or.inl (hw _ (List.mem_of_getElem? (i := 27) rfl))) Via.refl e27_ fc33_ (g := (mkF mM 4 #[.val (.ref a), .val (.int (1 : Int32)), .val (.int (sf (0 : Int32)))] [(.ref a), (.int (1 : Int32))])) rfl rfl (Jvm.hb hby own_d5_4)
  refine own_fin st37_ ?_
  show own_Fin pP eE below _ (T37_.setTop (mkF mM 7 #[.val (.ref a), .val (.int (1 : Int32)), .val (.int (sf (0 : Int32)))] [(.int (2 : Int32)), (.int (1 : Int32))]))
  refine own_fin (b := T37_.setTop (mkF mM 11 #[.val (.ref a), .val (.int (1 : Int32)), .val (.int (sf (0 : Int32)))] [(.ref a)])) (fun tT kK => ?_) ?_
  · show Steps pP.tables eE below (T37_.setTop (mkF mM 7 #[.val (.ref a), .val (.int (1 : Int32)), .val (.int (sf (0 : Int32)))] [(.int (2 : Int32)), (.int (1 : Int32))])) tT
    refine XS.icmpNo X37_.here hx rfl (Jvm.hb hby own_d5_7) rfl (tlt ((by decide) : (1 : Int32) < (2 : Int32))).2.1 ?_
    show Steps pP.tables eE below (T37_.setTop (mkF mM 10 #[.val (.ref a), .val (.int (1 : Int32)), .val (.int (sf (0 : Int32)))] [])) tT
    refine XS.aloadN X37_.here hx rfl (Jvm.hb hby own_d5_10) rfl rfl ?_
    show Steps pP.tables eE below (T37_.setTop (mkF mM 11 #[.val (.ref a), .val (.int (1 : Int32)), .val (.int (sf (0 : Int32)))] [(.ref a)])) tT
    exact kK
  obtain ⟨T38_, X38_, e38_, st38_⟩ := getF X37_ hx hZ hown (host := "") (Or.inl (hw _ (List.mem_of_getElem? (i := 17) rfl))) Via.refl e37_ fc31_ (g := (mkF mM 11 #[.val (.ref a), .val (.int (1 : Int32)), .val (.int (sf (0 : Int32)))] [(.ref a)])) rfl rfl (Jvm.hb hby own_d5_11)
  refine own_fin st38_ ?_
  show own_Fin pP eE below _ (T38_.setTop (mkF mM 14 #[.val (.ref a), .val (.int (1 : Int32)), .val (.int (sf (0 : Int32)))] [(.ref s)]))
  refine own_fin (b := T38_.setTop (mkF mM 15 #[.val (.ref a), .val (.int (1 : Int32)), .val (.int (sf (0 : Int32)))] [(.int (1 : Int32)), (.ref s)])) (fun tT kK => ?_) ?_
  · show Steps pP.tables eE below (T38_.setTop (mkF mM 14 #[.val (.ref a), .val (.int (1 : Int32)), .val (.int (sf (0 : Int32)))] [(.ref s)])) tT
    refine XS.iloadN X38_.here hx rfl (Jvm.hb hby own_d5_14) rfl ?_
    show Steps pP.tables eE below (T38_.setTop (mkF mM 15 #[.val (.ref a), .val (.int (1 : Int32)), .val (.int (sf (0 : Int32)))] [(.int (1 : Int32)), (.ref s)])) tT
    exact kK
  obtain ⟨cl39_, Ar39_, Sz39_, Nn39_, Hh39_⟩ := id fc36_
  have hin39_ : ¬ ((1 : Int32) < 0 ∨ cl39_.slots.size ≤ ((1 : Int32)).toNatClampNeg) := inb_of Sz39_ ⟨by decide, hs1.2⟩
  have hat39_ : cl39_.slots[((1 : Int32)).toNatClampNeg]? = some (.int (sf (1 : Int32))) := Hh39_ _ hin39_
  refine own_fin (b := T38_.setTop (mkF mM 18 #[.val (.ref a), .val (.int (1 : Int32)), .val (.int (sf (1 : Int32)))] [(.ref a)])) (fun tT kK => ?_) ?_
  · show Steps pP.tables eE below (T38_.setTop (mkF mM 15 #[.val (.ref a), .val (.int (1 : Int32)), .val (.int (sf (0 : Int32)))] [(.int (1 : Int32)), (.ref s)])) tT
    refine X38_.iaload hx (j := (1 : Int32)) (v := (.int (sf (1 : Int32)))) (own_rw e38_ Ar39_.1) (State.isArrayOf_alike hZ.alike Ar39_.2.1) Ar39_.2.2 hin39_ hat39_ (g := (mkF mM 15 #[.val (.ref a), .val (.int (1 : Int32)), .val (.int (sf (0 : Int32)))] [(.int (1 : Int32)), (.ref s)])) rfl rfl (Jvm.hb hby own_d5_15) _ ?_
    show Steps pP.tables eE below (T38_.setTop (mkF mM 16 #[.val (.ref a), .val (.int (1 : Int32)), .val (.int (sf (0 : Int32)))] [(.int (sf (1 : Int32)))])) tT
    refine XS.istoreN X38_.here hx rfl (Jvm.hb hby own_d5_16) rfl (l' := #[.val (.ref a), .val (.int (1 : Int32)), .val (.int (sf (1 : Int32)))]) rfl ?_
    show Steps pP.tables eE below (T38_.setTop (mkF mM 17 #[.val (.ref a), .val (.int (1 : Int32)), .val (.int (sf (1 : Int32)))] [])) tT
    refine XS.aloadN X38_.here hx rfl (Jvm.hb hby own_d5_17) rfl rfl ?_
    show Steps pP.tables eE below (T38_.setTop (mkF mM 18 #[.val (.ref a), .val (.int (1 : Int32)), .val (.int (sf (1 : Int32)))] [(.ref a)])) tT
    exact kK
  obtain ⟨T40_, X40_, e40_, st40_⟩ := getF X38_ hx hZ hown (host := "") (Or.inl (hw _ (List.mem_of_getElem? (i := 12) rfl))) Via.refl e38_ fc29_ (g := (mkF mM 18 #[.val (.ref a), .val (.int (1 : Int32)), .val (.int (sf (1 : Int32)))] [(.ref a)])) rfl rfl (Jvm.hb hby own_d5_18)
  refine own_fin st40_ ?_
  show own_Fin pP eE below _ (T40_.setTop (mkF mM 21 #[.val (.ref a), .val (.int (1 : Int32)), .val (.int (sf (1 : Int32)))] [(.ref v)]))
  refine own_fin (b := T40_.setTop (mkF mM 23 #[.val (.ref a), .val (.int (1 : Int32)), .val (.int (sf (1 : Int32)))] [(.double (0 : UInt64)), (.int (sf (1 : Int32))), (.ref v)])) (fun tT kK => ?_) ?_
  · show Steps pP.tables eE below (T40_.setTop (mkF mM 21 #[.val (.ref a), .val (.int (1 : Int32)), .val (.int (sf (1 : Int32)))] [(.ref v)])) tT
    refine XS.iloadN X40_.here hx rfl (Jvm.hb hby own_d5_21) rfl ?_
    show Steps pP.tables eE below (T40_.setTop (mkF mM 22 #[.val (.ref a), .val (.int (1 : Int32)), .val (.int (sf (1 : Int32)))] [(.int (sf (1 : Int32))), (.ref v)])) tT
    refine XS.dconst0 X40_.here hx rfl (Jvm.hb hby own_d5_22) (v := (0 : UInt64)) rfl ?_
    show Steps pP.tables eE below (T40_.setTop (mkF mM 23 #[.val (.ref a), .val (.int (1 : Int32)), .val (.int (sf (1 : Int32)))] [(.double (0 : UInt64)), (.int (sf (1 : Int32))), (.ref v)])) tT
    exact kK
  obtain ⟨cl41_, Ar41_, Sz41_, Nn41_, Hh41_⟩ := id fc34_
  have hin41_ : ¬ ((sf (1 : Int32)) < 0 ∨ cl41_.slots.size ≤ ((sf (1 : Int32))).toNatClampNeg) := inb_of Sz41_ hs1.1
  obtain ⟨T41_, h41_, X41_, e41_, W41_, st41_⟩ := stD X40_ hx hZ e40_ Ar41_ (j := (sf (1 : Int32))) hin41_ (g := (mkF mM 23 #[.val (.ref a), .val (.int (1 : Int32)), .val (.int (sf (1 : Int32)))] [(.double (0 : UInt64)), (.int (sf (1 : Int32))), (.ref v)])) rfl rfl (Jvm.hb hby own_d5_23)
  have U41_ : own_TD Z h41_ v z (own_upD (own_upD vf (sf (0 : Int32)) (0 : UInt64)) (sf (1 : Int32)) (0 : UInt64)) := own_TD.set ⟨cl41_, Ar41_, Sz41_, Nn41_, Hh41_⟩ W41_ hs1.1
  have fc42_ := fc28_.wr W41_
  have fc43_ := fc29_.other W41_ (Or.inl (Ne.symm nav))
  have fc44_ := fc30_.other W41_ (Or.inl (Ne.symm nav))
  have fc45_ := fc31_.other W41_ (Or.inl (Ne.symm nav))
  have fc46_ := fc32_.other W41_ (Or.inl (Ne.symm nav))
  have fc47_ := fc33_.other W41_ (Or.inl (Ne.symm nav))
  have fc48_ := fc35_.other W41_ (Ne.symm nvg)
  have fc49_ := fc36_.other W41_ (Ne.symm nvs)
  have fc50_ := U27_.other W41_ (Ne.symm nvb)
  have K41_ := K27_.wr W41_ (Or.inl (List.mem_of_getElem? (i := 1) rfl))
  have N41_ := Fr.snoc X41_ N27_ gv
  refine own_fin st41_ ?_
  show own_Fin pP eE below _ (T41_.setTop (mkF mM 24 #[.val (.ref a), .val (.int (1 : Int32)), .val (.int (sf (1 : Int32)))] []))
  refine own_fin (b := T41_.setTop (mkF mM 25 #[.val (.ref a), .val (.int (1 : Int32)), .val (.int (sf (1 : Int32)))] [(.ref a)])) (fun tT kK => ?_) ?_
  · show Steps pP.tables eE below (T41_.setTop (mkF mM 24 #[.val (.ref a), .val (.int (1 : Int32)), .val (.int (sf (1 : Int32)))] [])) tT
    refine XS.aloadN X41_.here hx rfl (Jvm.hb hby own_d5_24) rfl rfl ?_
    show Steps pP.tables eE below (T41_.setTop (mkF mM 25 #[.val (.ref a), .val (.int (1 : Int32)), .val (.int (sf (1 : Int32)))] [(.ref a)])) tT
    exact kK
  obtain ⟨T51_, X51_, e51_, st51_⟩ := getF X41_ hx hZ hown (host := "") (Or.inl (hw _ (List.mem_of_getElem? (i := 14) rfl))) Via.refl e41_ fc44_ (g := (mkF mM 25 #[.val (.ref a), .val (.int (1 : Int32)), .val (.int (sf (1 : Int32)))] [(.ref a)])) rfl rfl (Jvm.hb hby own_d5_25)
  refine own_fin st51_ ?_
  show own_Fin pP eE below _ (T51_.setTop (mkF mM 28 #[.val (.ref a), .val (.int (1 : Int32)), .val (.int (sf (1 : Int32)))] [(.ref g)]))
  refine own_fin (b := T51_.setTop (mkF mM 30 #[.val (.ref a), .val (.int (1 : Int32)), .val (.int (sf (1 : Int32)))] [(.double (0 : UInt64)), (.int (sf (1 : Int32))), (.ref g)])) (fun tT kK => ?_) ?_
  · show Steps pP.tables eE below (T51_.setTop (mkF mM 28 #[.val (.ref a), .val (.int (1 : Int32)), .val (.int (sf (1 : Int32)))] [(.ref g)])) tT
    refine XS.iloadN X51_.here hx rfl (Jvm.hb hby own_d5_28) rfl ?_
    show Steps pP.tables eE below (T51_.setTop (mkF mM 29 #[.val (.ref a), .val (.int (1 : Int32)), .val (.int (sf (1 : Int32)))] [(.int (sf (1 : Int32))), (.ref g)])) tT
    refine XS.dconst0 X51_.here hx rfl (Jvm.hb hby own_d5_29) (v := (0 : UInt64)) rfl ?_
    show Steps pP.tables eE below (T51_.setTop (mkF mM 30 #[.val (.ref a), .val (.int (1 : Int32)), .val (.int (sf (1 : Int32)))] [(.double (0 : UInt64)), (.int (sf (1 : Int32))), (.ref g)])) tT
    exact kK
  obtain ⟨cl52_, Ar52_, Sz52_, Nn52_, Hh52_⟩ := id fc48_
  have hin52_ : ¬ ((sf (1 : Int32)) < 0 ∨ cl52_.slots.size ≤ ((sf (1 : Int32))).toNatClampNeg) := inb_of Sz52_ hs1.1
  obtain ⟨T52_, h52_, X52_, e52_, W52_, st52_⟩ := stD X51_ hx hZ e51_ Ar52_ (j := (sf (1 : Int32))) hin52_ (g := (mkF mM 30 #[.val (.ref a), .val (.int (1 : Int32)), .val (.int (sf (1 : Int32)))] [(.double (0 : UInt64)), (.int (sf (1 : Int32))), (.ref g)])) rfl rfl (Jvm.hb hby own_d5_30)
  have U52_ : own_TD Z h52_ g z (own_upD (own_upD gf (sf (0 : Int32)) (0 : UInt64)) (sf (1 : Int32)) (0 : UInt64)) := own_TD.set ⟨cl52_, Ar52_, Sz52_, Nn52_, Hh52_⟩ W52_ hs1.1
  have fc53_ := fc42_.wr W52_
  have fc54_ := fc43_.other W52_ (Or.inl (Ne.symm nag))
  have fc55_ := fc44_.other W52_ (Or.inl (Ne.symm nag))
  have fc56_ := fc45_.other W52_ (Or.inl (Ne.symm nag))
  have fc57_ := fc46_.other W52_ (Or.inl (Ne.symm nag))
  have fc58_ := fc47_.other W52_ (Or.inl (Ne.symm nag))
  have fc59_ := U41_.other W52_ nvg
  have fc60_ := fc49_.other W52_ (Ne.symm ngs)
  have fc61_ := fc50_.other W52_ (Ne.symm ngb)
  have K52_ := K41_.wr W52_ (Or.inl (List.mem_of_getElem? (i := 2) rfl))
  have N52_ := Fr.snoc X52_ N41_ gg
  refine own_fin st52_ ?_
  show own_Fin pP eE below _ (T52_.setTop (mkF mM 31 #[.val (.ref a), .val (.int (1 : Int32)), .val (.int (sf (1 : Int32)))] []))
  refine own_fin (b := T52_.setTop (mkF mM 32 #[.val (.ref a), .val (.int (1 : Int32)), .val (.int (sf (1 : Int32)))] [(.ref a)])) (fun tT kK => ?_) ?_
  · show Steps pP.tables eE below (T52_.setTop (mkF mM 31 #[.val (.ref a), .val (.int (1 : Int32)), .val (.int (sf (1 : Int32)))] [])) tT
    refine XS.aloadN X52_.here hx rfl (Jvm.hb hby own_d5_31) rfl rfl ?_
    show Steps pP.tables eE below (T52_.setTop (mkF mM 32 #[.val (.ref a), .val (.int (1 : Int32)), .val (.int (sf (1 : Int32)))] [(.ref a)])) tT
    exact kK
  obtain ⟨T62_, X62_, e62_, st62_⟩ := getF X52_ hx hZ hown (host := "") (Or.inl (hw _ (List.mem_of_getElem? (i := 20) rfl))) Via.refl e52_ fc57_ (g := (mkF mM 32 #[.val (.ref a), .val (.int (1 : Int32)), .val (.int (sf (1 : Int32)))] [(.ref a)])) rfl rfl (Jvm.hb hby own_d5_32)
  refine own_fin st62_ ?_
  show own_Fin pP eE below _ (T62_.setTop (mkF mM 35 #[.val (.ref a), .val (.int (1 : Int32)), .val (.int (sf (1 : Int32)))] [(.ref b)]))
  refine own_fin (b := T62_.setTop (mkF mM 37 #[.val (.ref a), .val (.int (1 : Int32)), .val (.int (sf (1 : Int32)))] [(.int (0 : Int32)), (.int (sf (1 : Int32))), (.ref b)])) (fun tT kK => ?_) ?_
  · show Steps pP.tables eE below (T62_.setTop (mkF mM 35 #[.val (.ref a), .val (.int (1 : Int32)), .val (.int (sf (1 : Int32)))] [(.ref b)])) tT
    refine XS.iloadN X62_.here hx rfl (Jvm.hb hby own_d5_35) rfl ?_
    show Steps pP.tables eE below (T62_.setTop (mkF mM 36 #[.val (.ref a), .val (.int (1 : Int32)), .val (.int (sf (1 : Int32)))] [(.int (sf (1 : Int32))), (.ref b)])) tT
    refine XS.iconst X62_.here hx rfl (Jvm.hb hby own_d5_36) ?_
    show Steps pP.tables eE below (T62_.setTop (mkF mM 37 #[.val (.ref a), .val (.int (1 : Int32)), .val (.int (sf (1 : Int32)))] [(.int (0 : Int32)), (.int (sf (1 : Int32))), (.ref b)])) tT
    exact kK
  obtain ⟨cl63_, Ar63_, Sz63_, Nn63_, Hh63_⟩ := id fc61_
  have hin63_ : ¬ ((sf (1 : Int32)) < 0 ∨ cl63_.slots.size ≤ ((sf (1 : Int32))).toNatClampNeg) := inb_of Sz63_ hs1.1
  obtain ⟨T63_, h63_, X63_, e63_, W63_, st63_⟩ := stZ X62_ hx hZ e62_ Ar63_ (j := (sf (1 : Int32))) hin63_ (g := (mkF mM 37 #[.val (.ref a), .val (.int (1 : Int32)), .val (.int (sf (1 : Int32)))] [(.int (0 : Int32)), (.int (sf (1 : Int32))), (.ref b)])) rfl rfl (Jvm.hb hby own_d5_37)
  have U63_ : own_T Z h63_ b .boolean z (own_up (own_up bf (sf (0 : Int32)) (nar .boolean (0 : Int32))) (sf (1 : Int32)) (nar .boolean (0 : Int32))) := own_T.set ⟨cl63_, Ar63_, Sz63_, Nn63_, Hh63_⟩ W63_ hs1.1
  have fc64_ := fc53_.wr W63_
  have fc65_ := fc54_.other W63_ (Or.inl (Ne.symm nab))
  have fc66_ := fc55_.other W63_ (Or.inl (Ne.symm nab))
  have fc67_ := fc56_.other W63_ (Or.inl (Ne.symm nab))
  have fc68_ := fc57_.other W63_ (Or.inl (Ne.symm nab))
  have fc69_ := fc58_.other W63_ (Or.inl (Ne.symm nab))
  have fc70_ := fc59_.other W63_ nvb
  have fc71_ := U52_.other W63_ ngb
  have fc72_ := fc60_.other W63_ nsb
  have K63_ := K52_.wr W63_ (Or.inl (List.mem_of_getElem? (i := 4) rfl))
  have N63_ := Fr.snoc X63_ N52_ gb
  refine own_fin st63_ ?_
  show own_Fin pP eE below _ (T63_.setTop (mkF mM 38 #[.val (.ref a), .val (.int (1 : Int32)), .val (.int (sf (1 : Int32)))] []))
  refine own_fin (b := T63_.setTop (mkF mM 4 #[.val (.ref a), .val (.int (2 : Int32)), .val (.int (sf (1 : Int32)))] [(.ref a), (.int (2 : Int32))])) (fun tT kK => ?_) ?_
  · show Steps pP.tables eE below (T63_.setTop (mkF mM 38 #[.val (.ref a), .val (.int (1 : Int32)), .val (.int (sf (1 : Int32)))] [])) tT
    refine XS.iinc X63_.here hx rfl (Jvm.hb hby own_d5_38) rfl (l' := #[.val (.ref a), .val (.int (2 : Int32)), .val (.int (sf (1 : Int32)))]) rfl ?_
    show Steps pP.tables eE below (T63_.setTop (mkF mM 41 #[.val (.ref a), .val (.int (2 : Int32)), .val (.int (sf (1 : Int32)))] [])) tT
    refine XS.goto X63_.here hx rfl (pc0 := 41) (pc' := 2) rfl (Jvm.hb hby own_d5_41) (by decide) (by decide) ?_
    show Steps pP.tables eE below (T63_.setTop (mkF mM 2 #[.val (.ref a), .val (.int (2 : Int32)), .val (.int (sf (1 : Int32)))] [])) tT
    refine XS.iloadN X63_.here hx rfl (Jvm.hb hby own_d5_2) rfl ?_
    show Steps pP.tables eE below (T63_.setTop (mkF mM 3 #[.val (.ref a), .val (.int (2 : Int32)), .val (.int (sf (1 : Int32)))] [(.int (2 : Int32))])) tT
    refine XS.aloadN X63_.here hx rfl (Jvm.hb hby own_d5_3) rfl rfl ?_
    show Steps pP.tables eE below (T63_.setTop (mkF mM 4 #[.val (.ref a), .val (.int (2 : Int32)), .val (.int (sf (1 : Int32)))] [(.ref a), (.int (2 : Int32))])) tT
    exact kK
  obtain ⟨T73_, X73_, e73_, st73_⟩ := getF X63_ hx hZ hown (host := "") (Or.inl (hw _ (List.mem_of_getElem? (i := 27) rfl))) Via.refl e63_ fc69_ (g := (mkF mM 4 #[.val (.ref a), .val (.int (2 : Int32)), .val (.int (sf (1 : Int32)))] [(.ref a), (.int (2 : Int32))])) rfl rfl (Jvm.hb hby own_d5_4)
  refine own_fin st73_ ?_
  show own_Fin pP eE below _ (T73_.setTop (mkF mM 7 #[.val (.ref a), .val (.int (2 : Int32)), .val (.int (sf (1 : Int32)))] [(.int (2 : Int32)), (.int (2 : Int32))]))
  refine own_fin (b := T73_.setTop (mkF mM 44 #[.val (.ref a), .val (.int (2 : Int32)), .val (.int (sf (1 : Int32)))] [])) (fun tT kK => ?_) ?_
  · show Steps pP.tables eE below (T73_.setTop (mkF mM 7 #[.val (.ref a), .val (.int (2 : Int32)), .val (.int (sf (1 : Int32)))] [(.int (2 : Int32)), (.int (2 : Int32))])) tT
    refine XS.icmpYes X73_.here hx rfl (pc0 := 7) (pc' := 44) rfl (Jvm.hb hby own_d5_7) rfl (flt ((by decide) : ¬ ((2 : Int32) < (2 : Int32)))).2.1 (by decide) (by decide) ?_
    show Steps pP.tables eE below (T73_.setTop (mkF mM 44 #[.val (.ref a), .val (.int (2 : Int32)), .val (.int (sf (1 : Int32)))] [])) tT
    exact kK
  have Zv_ : own_TD Z h63_ v z (fun _ => (0 : UInt64)) := fc70_.congr (fun j hj => own_cl2D (fun h0 h1 => (hI j hj h0 h1).2.1))
  have Zg_ : own_TD Z h63_ g z (fun _ => (0 : UInt64)) := fc71_.congr (fun j hj => own_cl2D (fun h0 h1 => (hI j hj h0 h1).2.2))
  have Zb_ : own_T Z h63_ b .boolean z (fun _ => (0 : Int32)) := U63_.congr (fun j hj => own_cl2 (fun h0 h1 => (hI j hj h0 h1).1))
  refine own_fin (b := T73_.setTop (mkF mM 46 #[.val (.ref a), .val (.int (2 : Int32)), .val (.int (sf (1 : Int32)))] [(.int (0 : Int32)), (.ref a)])) (fun tT kK => ?_) ?_
  · show Steps pP.tables eE below (T73_.setTop (mkF mM 44 #[.val (.ref a), .val (.int (2 : Int32)), .val (.int (sf (1 : Int32)))] [])) tT
    refine XS.aloadN X73_.here hx rfl (Jvm.hb hby own_d5_44) rfl rfl ?_
    show Steps pP.tables eE below (T73_.setTop (mkF mM 45 #[.val (.ref a), .val (.int (2 : Int32)), .val (.int (sf (1 : Int32)))] [(.ref a)])) tT
    refine XS.iconst X73_.here hx rfl (Jvm.hb hby own_d5_45) ?_
    show Steps pP.tables eE below (T73_.setTop (mkF mM 46 #[.val (.ref a), .val (.int (2 : Int32)), .val (.int (sf (1 : Int32)))] [(.int (0 : Int32)), (.ref a)])) tT
    exact kK
  obtain ⟨T74_, h74_, X74_, e74_, W74_, st74_⟩ := putF X73_ hx hZ hown (host := "") (Or.inl (hw _ (List.mem_of_getElem? (i := 27) rfl))) Via.refl e73_ fc69_ fc64_ (Or.inl (hw _ (List.mem_of_getElem? (i := 28) rfl))) (hw _ (List.mem_of_getElem? (i := 3) rfl)) (ty := .int) (by decide) rfl rfl (g := (mkF mM 46 #[.val (.ref a), .val (.int (2 : Int32)), .val (.int (sf (1 : Int32)))] [(.int (0 : Int32)), (.ref a)])) rfl rfl (Jvm.hb hby own_d5_46)
  have Fw74_ := fc69_.same W74_
  have fc75_ := fc64_.wr W74_
  have fc76_ := fc65_.other W74_ (Or.inr (slot_ne (Or.inr (hw _ (List.mem_of_getElem? (i := 13) rfl))) (Or.inl (hw _ (List.mem_of_getElem? (i := 28) rfl))) (by decide) (t := (.array .double)) (t' := .int) (by decide) (by decide)))
  have fc77_ := fc66_.other W74_ (Or.inr (slot_ne (Or.inr (hw _ (List.mem_of_getElem? (i := 15) rfl))) (Or.inl (hw _ (List.mem_of_getElem? (i := 28) rfl))) (by decide) (t := (.array .double)) (t' := .int) (by decide) (by decide)))
  have fc78_ := fc67_.other W74_ (Or.inr (slot_ne (Or.inr (hw _ (List.mem_of_getElem? (i := 18) rfl))) (Or.inl (hw _ (List.mem_of_getElem? (i := 28) rfl))) (by decide) (t := (.array .int)) (t' := .int) (by decide) (by decide)))
  have fc79_ := fc68_.other W74_ (Or.inr (slot_ne (Or.inr (hw _ (List.mem_of_getElem? (i := 21) rfl))) (Or.inl (hw _ (List.mem_of_getElem? (i := 28) rfl))) (by decide) (t := (.array .boolean)) (t' := .int) (by decide) (by decide)))
  have fc80_ := Zv_.other W74_ nav
  have fc81_ := Zg_.other W74_ nag
  have fc82_ := fc72_.other W74_ nas
  have fc83_ := Zb_.other W74_ nab
  have K74_ := K63_.wr W74_ (Or.inl (List.mem_of_getElem? (i := 0) rfl))
  have N74_ := Fr.snoc X74_ N63_ ga
  refine own_fin st74_ ?_
  show own_Fin pP eE below _ (T74_.setTop (mkF mM 49 #[.val (.ref a), .val (.int (2 : Int32)), .val (.int (sf (1 : Int32)))] []))
  obtain ⟨fs, hr, hrun, hended, hW, hsame⟩ := X74_.leave (v := none) (fun _ => rfl)
  refine ⟨_, _, ?_, hrun, hended, _, _, rfl, ?_, ⟨_, rfl⟩, hW, hsame.mono (by decide) (by decide)⟩
  · show Steps pP.tables eE below (T74_.setTop (mkF mM 49 #[.val (.ref a), .val (.int (2 : Int32)), .val (.int (sf (1 : Int32)))] [])) _
    exact X74_.returnOut hx Bd.returns (Jvm.hb hby own_d5_49) hr
  · show Q_rm_clr2 Z a v g s b z vf gf sf bf h0 n0 _ T74_.heap _
    rw [e74_]
    exact ⟨rfl, N74_, K74_, fc75_, fc76_, fc77_, fc78_, fc79_, Fw74_, fc80_, fc81_, fc82_, fc83_⟩
theorem own_d6_0 : decode prog_88_method_5_code 0 = .ok (.aload_n 0, 1) := by decide +kernel
theorem own_d6_1 : decode prog_88_method_5_code 1 = .ok (.getfield 24, 3) := by decide +kernel
theorem own_d6_4 : decode prog_88_method_5_code 4 = .ok (.ireturn, 1) := by decide +kernel
theorem own_ef_rm_cnt (mM : MethodId) (x0 : Addr) : entryFrame mM #[(.ref x0)] 1 = mkF mM 0 #[.val (.ref x0)] [] := by first | (simp [entryFrame, mkF, argsToLocals, Value.category]; done) | rfl
def Q_rm_cnt (Z : State) (a : Addr) (c : Int32) (h0 : Heap) (n0 : Nat) (vV : Option Value) (hH : Heap) (lA : List Loc) : Prop := vV = some (.int c) ∧ Fr n0 lA ∧ (hH = h0)
set_option maxRecDepth 65536 in
set_option maxHeartbeats 40000000 in
theorem rm_cnt (lL : Launch) (Z : State) (a0 : Array Value) (hw : ∀ d ∈ tables_1, d.before a0 Z = true) (ws : List Jvm.Cond) (a : Addr) (c : Int32) (h0 : Heap) (n0 : Nat) (Z0 : n0 ≤ h0.size) (Fc : Fld Z h0 a "com/example/chains_to_rank/chainstorank/ranker/Scores" "scoredCount" "I" (.int c)) :
    MetFree lL (⟨"com/example/chains_to_rank/chainstorank/ranker/Scores", "scoredCount", "()I"⟩ : MethodName) (head1 (Jvm.Cond.code (⟨"com/example/chains_to_rank/chainstorank/ranker/Scores", "scoredCount", "()I"⟩ : MethodName) prog_88_method_5_code 1 (some .int) :: ws) ({ frames := 0, cells := 0, slots := 0, locals := 0 } : Room)) (fun aA uU => aA = #[(.ref a)] ∧ Z.Warmed39 uU.vm ∧ uU.heap = h0) (fun _ _ _ _ _ => True) (fun _ uU oO uU' => ∃ vV lA, oO = .returned vV ∧ Q_rm_cnt Z a c h0 n0 vV uU'.heap lA ∧ FrameEnd uU oO uU' lA ({ frames := 0, cells := 0, slots := 0, locals := 0 } : Room).cells ({ frames := 0, cells := 0, slots := 0, locals := 0 } : Room).slots) := by
  refine MetFree.of_bodySF (plainFor_of_name own_pn_com_example_chains_to_rank_chainstorank_ranker_Scores) hisR ?_
  intro pP eE sS mM args below meth cC s₁ Bd hml0 hP hK
  obtain ⟨rfl, hZ, hh⟩ := hP
  have hx := Bd.exec
  have hby := Bd.bytes
  have hml : cC.maxLocals = 1 := hml0
  have hown : sS.vm.findClass "com/example/chains_to_rank/chainstorank/ranker/Scores" = some mM.cls := findClass_of_methodNamed Bd.named
  have hnm := (name_of_methodNamed Bd.named Bd.method).1
  have X0 : Stand pP lL eE ({ frames := 0, cells := 0, slots := 0, locals := 0 } : Room) sS mM #[(.ref a)] below meth cC s₁ [] 0 0 := Stand.of_body Bd
  have e0 : s₁.heap = h0 := by rw [← hh, Bd.state]; rfl
  have N0 := Fr.nil n0
  have K0 := Keep.refl h0 ([] : List Addr)
  show own_Fin pP eE below (fun tT oO => ∃ vV lA, oO = .returned vV ∧ Q_rm_cnt Z a c h0 n0 vV tT.heap lA ∧ FrameEnd sS oO tT lA ({ frames := 0, cells := 0, slots := 0, locals := 0 } : Room).cells ({ frames := 0, cells := 0, slots := 0, locals := 0 } : Room).slots) (s₁.setTop (entryFrame mM #[(.ref a)] 1))
  refine own_fin (b := s₁.setTop (mkF mM 0 #[.val (.ref a)] [])) (fun tT kK => castTop (own_ef_rm_cnt mM a) kK) ?_
  refine own_fin (b := s₁.setTop (mkF mM 1 #[.val (.ref a)] [(.ref a)])) (fun tT kK => ?_) ?_
  · show Steps pP.tables eE below (s₁.setTop (mkF mM 0 #[.val (.ref a)] [])) tT
    refine XS.aloadN X0.here hx rfl (Jvm.hb hby own_d6_0) rfl rfl ?_
    show Steps pP.tables eE below (s₁.setTop (mkF mM 1 #[.val (.ref a)] [(.ref a)])) tT
    exact kK
  obtain ⟨T1_, X1_, e1_, st1_⟩ := getF X0 hx hZ hown (host := "") (Or.inl (hw _ (List.mem_of_getElem? (i := 27) rfl))) Via.refl e0 Fc (g := (mkF mM 1 #[.val (.ref a)] [(.ref a)])) rfl rfl (Jvm.hb hby own_d6_1)
  refine own_fin st1_ ?_
  show own_Fin pP eE below _ (T1_.setTop (mkF mM 4 #[.val (.ref a)] [(.int c)]))
  obtain ⟨fs, hr, hrun, hended, hW, hsame⟩ := X1_.leave (v := some (.int c)) (fun h => by rw [Bd.returns] at h; cases h)
  refine ⟨_, _, ?_, hrun, hended, _, _, rfl, ?_, ⟨_, rfl⟩, hW, hsame.mono (by decide) (by decide)⟩
  · show Steps pP.tables eE below (T1_.setTop (mkF mM 4 #[.val (.ref a)] [(.int c)])) _
    exact retOut X1_ hx Bd.returns rfl (Or.inl ⟨rfl, Or.inl rfl, _, rfl⟩) (Jvm.hb hby own_d6_4) hr
  · show Q_rm_cnt Z a c h0 n0 _ T1_.heap _
    rw [e1_]
    exact ⟨rfl, N0, rfl⟩
theorem own_d7_0 : decode prog_88_method_6_code 0 = .ok (.aload_n 0, 1) := by decide +kernel
theorem own_d7_1 : decode prog_88_method_6_code 1 = .ok (.getfield 16, 3) := by decide +kernel
theorem own_d7_4 : decode prog_88_method_6_code 4 = .ok (.iload_n 1, 1) := by decide +kernel
theorem own_d7_5 : decode prog_88_method_6_code 5 = .ok (.iaload, 1) := by decide +kernel
theorem own_d7_6 : decode prog_88_method_6_code 6 = .ok (.ireturn, 1) := by decide +kernel
theorem own_ef_rm_scored (mM : MethodId) (x0 : Addr) (x1 : Int32) : entryFrame mM #[(.ref x0), (.int x1)] 2 = mkF mM 0 #[.val (.ref x0), .val (.int x1)] [] := by first | (simp [entryFrame, mkF, argsToLocals, Value.category]; done) | rfl
def Q_rm_scored (Z : State) (a : Addr) (i : Int32) (t : Addr) (z : Int32) (f : Int32 → Int32) (h0 : Heap) (n0 : Nat) (vV : Option Value) (hH : Heap) (lA : List Loc) : Prop := vV = some (.int (f i)) ∧ Fr n0 lA ∧ (hH = h0)
set_option maxRecDepth 65536 in
set_option maxHeartbeats 40000000 in
theorem rm_scored (lL : Launch) (Z : State) (a0 : Array Value) (hw : ∀ d ∈ tables_1, d.before a0 Z = true) (ws : List Jvm.Cond) (a : Addr) (i : Int32) (t : Addr) (z : Int32) (f : Int32 → Int32) (h0 : Heap) (n0 : Nat) (Z0 : n0 ≤ h0.size) (F0 : Fld Z h0 a "com/example/chains_to_rank/chainstorank/ranker/Scores" "scored" "[I" (.ref t)) (Tt : own_T Z h0 t .int z f) (hi : ¬ i < 0 ∧ i < z) :
    MetFree lL (⟨"com/example/chains_to_rank/chainstorank/ranker/Scores", "scored", "(I)I"⟩ : MethodName) (head1 (Jvm.Cond.code (⟨"com/example/chains_to_rank/chainstorank/ranker/Scores", "scored", "(I)I"⟩ : MethodName) prog_88_method_6_code 2 (some .int) :: ws) ({ frames := 0, cells := 0, slots := 0, locals := 0 } : Room)) (fun aA uU => aA = #[(.ref a), (.int i)] ∧ Z.Warmed39 uU.vm ∧ uU.heap = h0) (fun _ _ _ _ _ => True) (fun _ uU oO uU' => ∃ vV lA, oO = .returned vV ∧ Q_rm_scored Z a i t z f h0 n0 vV uU'.heap lA ∧ FrameEnd uU oO uU' lA ({ frames := 0, cells := 0, slots := 0, locals := 0 } : Room).cells ({ frames := 0, cells := 0, slots := 0, locals := 0 } : Room).slots) := by
  refine MetFree.of_bodySF (plainFor_of_name own_pn_com_example_chains_to_rank_chainstorank_ranker_Scores) hisR ?_
  intro pP eE sS mM args below meth cC s₁ Bd hml0 hP hK
  obtain ⟨rfl, hZ, hh⟩ := hP
  have hx := Bd.exec
  have hby := Bd.bytes
  have hml : cC.maxLocals = 2 := hml0
  have hown : sS.vm.findClass "com/example/chains_to_rank/chainstorank/ranker/Scores" = some mM.cls := findClass_of_methodNamed Bd.named
  have hnm := (name_of_methodNamed Bd.named Bd.method).1
  have X0 : Stand pP lL eE ({ frames := 0, cells := 0, slots := 0, locals := 0 } : Room) sS mM #[(.ref a), (.int i)] below meth cC s₁ [] 0 0 := Stand.of_body Bd
  have e0 : s₁.heap = h0 := by rw [← hh, Bd.state]; rfl
  have N0 := Fr.nil n0
  have K0 := Keep.refl h0 ([] : List Addr)
  show own_Fin pP eE below (fun tT oO => ∃ vV lA, oO = .returned vV ∧ Q_rm_scored Z a i t z f h0 n0 vV tT.heap lA ∧ FrameEnd sS oO tT lA ({ frames := 0, cells := 0, slots := 0, locals := 0 } : Room).cells ({ frames := 0, cells := 0, slots := 0, locals := 0 } : Room).slots) (s₁.setTop (entryFrame mM #[(.ref a), (.int i)] 2))
  refine own_fin (b := s₁.setTop (mkF mM 0 #[.val (.ref a), .val (.int i)] [])) (fun tT kK => castTop (own_ef_rm_scored mM a i) kK) ?_
  refine own_fin (b := s₁.setTop (mkF mM 1 #[.val (.ref a), .val (.int i)] [(.ref a)])) (fun tT kK => ?_) ?_
  · show Steps pP.tables eE below (s₁.setTop (mkF mM 0 #[.val (.ref a), .val (.int i)] [])) tT
    refine XS.aloadN X0.here hx rfl (Jvm.hb hby own_d7_0) rfl rfl ?_
    show Steps pP.tables eE below (s₁.setTop (mkF mM 1 #[.val (.ref a), .val (.int i)] [(.ref a)])) tT
    exact kK
  obtain ⟨T1_, X1_, e1_, st1_⟩ := getF X0 hx hZ hown (host := "") (Or.inl (hw _ (List.mem_of_getElem? (i := 17) rfl))) Via.refl e0 F0 (g := (mkF mM 1 #[.val (.ref a), .val (.int i)] [(.ref a)])) rfl rfl (Jvm.hb hby own_d7_1)
  refine own_fin st1_ ?_
  show own_Fin pP eE below _ (T1_.setTop (mkF mM 4 #[.val (.ref a), .val (.int i)] [(.ref t)]))
  refine own_fin (b := T1_.setTop (mkF mM 5 #[.val (.ref a), .val (.int i)] [(.int i), (.ref t)])) (fun tT kK => ?_) ?_
  · show Steps pP.tables eE below (T1_.setTop (mkF mM 4 #[.val (.ref a), .val (.int i)] [(.ref t)])) tT
    refine XS.iloadN X1_.here hx rfl (Jvm.hb hby own_d7_4) rfl ?_
    show Steps pP.tables eE below (T1_.setTop (mkF mM 5 #[.val (.ref a), .val (.int i)] [(.int i), (.ref t)])) tT
    exact kK
  obtain ⟨cl2_, Ar2_, Sz2_, Nn2_, Hh2_⟩ := id Tt
  have hin2_ : ¬ (i < 0 ∨ cl2_.slots.size ≤ (i).toNatClampNeg) := inb_of Sz2_ hi
  have hat2_ : cl2_.slots[(i).toNatClampNeg]? = some (.int (f i)) := Hh2_ _ hin2_
  refine own_fin (b := T1_.setTop (mkF mM 6 #[.val (.ref a), .val (.int i)] [(.int (f i))])) (fun tT kK => ?_) ?_
  · show Steps pP.tables eE below (T1_.setTop (mkF mM 5 #[.val (.ref a), .val (.int i)] [(.int i), (.ref t)])) tT
    refine X1_.iaload hx (j := i) (v := (.int (f i))) (own_rw e1_ Ar2_.1) (State.isArrayOf_alike hZ.alike Ar2_.2.1) Ar2_.2.2 hin2_ hat2_ (g := (mkF mM 5 #[.val (.ref a), .val (.int i)] [(.int i), (.ref t)])) rfl rfl (Jvm.hb hby own_d7_5) _ ?_
    show Steps pP.tables eE below (T1_.setTop (mkF mM 6 #[.val (.ref a), .val (.int i)] [(.int (f i))])) tT
    exact kK
  obtain ⟨fs, hr, hrun, hended, hW, hsame⟩ := X1_.leave (v := some (.int (f i))) (fun h => by rw [Bd.returns] at h; cases h)
  refine ⟨_, _, ?_, hrun, hended, _, _, rfl, ?_, ⟨_, rfl⟩, hW, hsame.mono (by decide) (by decide)⟩
  · show Steps pP.tables eE below (T1_.setTop (mkF mM 6 #[.val (.ref a), .val (.int i)] [(.int (f i))])) _
    exact retOut X1_ hx Bd.returns rfl (Or.inl ⟨rfl, Or.inl rfl, _, rfl⟩) (Jvm.hb hby own_d7_6) hr
  · show Q_rm_scored Z a i t z f h0 n0 _ T1_.heap _
    rw [e1_]
    exact ⟨rfl, N0, rfl⟩
theorem own_d8_0 : decode prog_88_method_3_code 0 = .ok (.aload_n 0, 1) := by decide +kernel
theorem own_d8_1 : decode prog_88_method_3_code 1 = .ok (.getfield 7, 3) := by decide +kernel
theorem own_d8_4 : decode prog_88_method_3_code 4 = .ok (.iload_n 1, 1) := by decide +kernel
theorem own_d8_5 : decode prog_88_method_3_code 5 = .ok (.daload, 1) := by decide +kernel
theorem own_d8_6 : decode prog_88_method_3_code 6 = .ok (.dreturn, 1) := by decide +kernel
theorem own_ef_rm_value (mM : MethodId) (x0 : Addr) (x1 : Int32) : entryFrame mM #[(.ref x0), (.int x1)] 2 = mkF mM 0 #[.val (.ref x0), .val (.int x1)] [] := by first | (simp [entryFrame, mkF, argsToLocals, Value.category]; done) | rfl
def Q_rm_value (Z : State) (a : Addr) (i : Int32) (t : Addr) (z : Int32) (f : Int32 → UInt64) (h0 : Heap) (n0 : Nat) (vV : Option Value) (hH : Heap) (lA : List Loc) : Prop := vV = some (.double (f i)) ∧ Fr n0 lA ∧ (hH = h0)
set_option maxRecDepth 65536 in
set_option maxHeartbeats 40000000 in
theorem rm_value (lL : Launch) (Z : State) (a0 : Array Value) (hw : ∀ d ∈ tables_1, d.before a0 Z = true) (ws : List Jvm.Cond) (a : Addr) (i : Int32) (t : Addr) (z : Int32) (f : Int32 → UInt64) (h0 : Heap) (n0 : Nat) (Z0 : n0 ≤ h0.size) (F0 : Fld Z h0 a "com/example/chains_to_rank/chainstorank/ranker/Scores" "values" "[D" (.ref t)) (Tt : own_TD Z h0 t z f) (hi : ¬ i < 0 ∧ i < z) :
    MetFree lL (⟨"com/example/chains_to_rank/chainstorank/ranker/Scores", "value", "(I)D"⟩ : MethodName) (head1 (Jvm.Cond.code (⟨"com/example/chains_to_rank/chainstorank/ranker/Scores", "value", "(I)D"⟩ : MethodName) prog_88_method_3_code 2 (some .double) :: ws) ({ frames := 0, cells := 0, slots := 0, locals := 0 } : Room)) (fun aA uU => aA = #[(.ref a), (.int i)] ∧ Z.Warmed39 uU.vm ∧ uU.heap = h0) (fun _ _ _ _ _ => True) (fun _ uU oO uU' => ∃ vV lA, oO = .returned vV ∧ Q_rm_value Z a i t z f h0 n0 vV uU'.heap lA ∧ FrameEnd uU oO uU' lA ({ frames := 0, cells := 0, slots := 0, locals := 0 } : Room).cells ({ frames := 0, cells := 0, slots := 0, locals := 0 } : Room).slots) := by
  refine MetFree.of_bodySF (plainFor_of_name own_pn_com_example_chains_to_rank_chainstorank_ranker_Scores) hisR ?_
  intro pP eE sS mM args below meth cC s₁ Bd hml0 hP hK
  obtain ⟨rfl, hZ, hh⟩ := hP
  have hx := Bd.exec
  have hby := Bd.bytes
  have hml : cC.maxLocals = 2 := hml0
  have hown : sS.vm.findClass "com/example/chains_to_rank/chainstorank/ranker/Scores" = some mM.cls := findClass_of_methodNamed Bd.named
  have hnm := (name_of_methodNamed Bd.named Bd.method).1
  have X0 : Stand pP lL eE ({ frames := 0, cells := 0, slots := 0, locals := 0 } : Room) sS mM #[(.ref a), (.int i)] below meth cC s₁ [] 0 0 := Stand.of_body Bd
  have e0 : s₁.heap = h0 := by rw [← hh, Bd.state]; rfl
  have N0 := Fr.nil n0
  have K0 := Keep.refl h0 ([] : List Addr)
  show own_Fin pP eE below (fun tT oO => ∃ vV lA, oO = .returned vV ∧ Q_rm_value Z a i t z f h0 n0 vV tT.heap lA ∧ FrameEnd sS oO tT lA ({ frames := 0, cells := 0, slots := 0, locals := 0 } : Room).cells ({ frames := 0, cells := 0, slots := 0, locals := 0 } : Room).slots) (s₁.setTop (entryFrame mM #[(.ref a), (.int i)] 2))
  refine own_fin (b := s₁.setTop (mkF mM 0 #[.val (.ref a), .val (.int i)] [])) (fun tT kK => castTop (own_ef_rm_value mM a i) kK) ?_
  refine own_fin (b := s₁.setTop (mkF mM 1 #[.val (.ref a), .val (.int i)] [(.ref a)])) (fun tT kK => ?_) ?_
  · show Steps pP.tables eE below (s₁.setTop (mkF mM 0 #[.val (.ref a), .val (.int i)] [])) tT
    refine XS.aloadN X0.here hx rfl (Jvm.hb hby own_d8_0) rfl rfl ?_
    show Steps pP.tables eE below (s₁.setTop (mkF mM 1 #[.val (.ref a), .val (.int i)] [(.ref a)])) tT
    exact kK
  obtain ⟨T1_, X1_, e1_, st1_⟩ := getF X0 hx hZ hown (host := "") (Or.inl (hw _ (List.mem_of_getElem? (i := 12) rfl))) Via.refl e0 F0 (g := (mkF mM 1 #[.val (.ref a), .val (.int i)] [(.ref a)])) rfl rfl (Jvm.hb hby own_d8_1)
  refine own_fin st1_ ?_
  show own_Fin pP eE below _ (T1_.setTop (mkF mM 4 #[.val (.ref a), .val (.int i)] [(.ref t)]))
  refine own_fin (b := T1_.setTop (mkF mM 5 #[.val (.ref a), .val (.int i)] [(.int i), (.ref t)])) (fun tT kK => ?_) ?_
  · show Steps pP.tables eE below (T1_.setTop (mkF mM 4 #[.val (.ref a), .val (.int i)] [(.ref t)])) tT
    refine XS.iloadN X1_.here hx rfl (Jvm.hb hby own_d8_4) rfl ?_
    show Steps pP.tables eE below (T1_.setTop (mkF mM 5 #[.val (.ref a), .val (.int i)] [(.int i), (.ref t)])) tT
    exact kK
  obtain ⟨cl2_, Ar2_, Sz2_, Nn2_, Hh2_⟩ := id Tt
  have hin2_ : ¬ (i < 0 ∨ cl2_.slots.size ≤ (i).toNatClampNeg) := inb_of Sz2_ hi
  have hat2_ : cl2_.slots[(i).toNatClampNeg]? = some (.double (f i)) := Hh2_ _ hin2_
  refine own_fin (b := T1_.setTop (mkF mM 6 #[.val (.ref a), .val (.int i)] [(.double (f i))])) (fun tT kK => ?_) ?_
  · show Steps pP.tables eE below (T1_.setTop (mkF mM 5 #[.val (.ref a), .val (.int i)] [(.int i), (.ref t)])) tT
    refine X1_.daload hx (j := i) (v := (.double (f i))) (own_rw e1_ Ar2_.1) (State.isArrayOf_alike hZ.alike Ar2_.2.1) Ar2_.2.2 hin2_ hat2_ (g := (mkF mM 5 #[.val (.ref a), .val (.int i)] [(.int i), (.ref t)])) rfl rfl (Jvm.hb hby own_d8_5) _ ?_
    show Steps pP.tables eE below (T1_.setTop (mkF mM 6 #[.val (.ref a), .val (.int i)] [(.double (f i))])) tT
    exact kK
  obtain ⟨fs, hr, hrun, hended, hW, hsame⟩ := X1_.leave (v := some (.double (f i))) (fun h => by rw [Bd.returns] at h; cases h)
  refine ⟨_, _, ?_, hrun, hended, _, _, rfl, ?_, ⟨_, rfl⟩, hW, hsame.mono (by decide) (by decide)⟩
  · show Steps pP.tables eE below (T1_.setTop (mkF mM 6 #[.val (.ref a), .val (.int i)] [(.double (f i))])) _
    exact retOut X1_ hx Bd.returns rfl (Or.inr (Or.inr (Or.inl ⟨rfl, rfl, _, rfl⟩))) (Jvm.hb hby own_d8_6) hr
  · show Q_rm_value Z a i t z f h0 n0 _ T1_.heap _
    rw [e1_]
    exact ⟨rfl, N0, rfl⟩
theorem own_d12_0 : decode prog_88_method_7_code 0 = .ok (.aload_n 0, 1) := by decide +kernel
theorem own_d12_1 : decode prog_88_method_7_code 1 = .ok (.getfield 20, 3) := by decide +kernel
theorem own_d12_4 : decode prog_88_method_7_code 4 = .ok (.iload_n 1, 1) := by decide +kernel
theorem own_d12_5 : decode prog_88_method_7_code 5 = .ok (.baload, 1) := by decide +kernel
theorem own_d12_6 : decode prog_88_method_7_code 6 = .ok (.ireturn, 1) := by decide +kernel
theorem own_ef_rm_isScored (mM : MethodId) (x0 : Addr) (x1 : Int32) : entryFrame mM #[(.ref x0), (.int x1)] 2 = mkF mM 0 #[.val (.ref x0), .val (.int x1)] [] := by first | (simp [entryFrame, mkF, argsToLocals, Value.category]; done) | rfl
def Q_rm_isScored (Z : State) (a : Addr) (i : Int32) (t : Addr) (z : Int32) (f : Int32 → Int32) (h0 : Heap) (n0 : Nat) (vV : Option Value) (hH : Heap) (lA : List Loc) : Prop := vV = some (.int (nar .boolean (f i))) ∧ Fr n0 lA ∧ (hH = h0)
set_option maxRecDepth 65536 in
set_option maxHeartbeats 40000000 in
theorem rm_isScored (lL : Launch) (Z : State) (a0 : Array Value) (hw : ∀ d ∈ tables_1, d.before a0 Z = true) (ws : List Jvm.Cond) (a : Addr) (i : Int32) (t : Addr) (z : Int32) (f : Int32 → Int32) (h0 : Heap) (n0 : Nat) (Z0 : n0 ≤ h0.size) (F0 : Fld Z h0 a "com/example/chains_to_rank/chainstorank/ranker/Scores" "isScored" "[Z" (.ref t)) (Tt : own_T Z h0 t .boolean z f) (hi : ¬ i < 0 ∧ i < z) :
    MetFree lL (⟨"com/example/chains_to_rank/chainstorank/ranker/Scores", "isScored", "(I)Z"⟩ : MethodName) (head1 (Jvm.Cond.code (⟨"com/example/chains_to_rank/chainstorank/ranker/Scores", "isScored", "(I)Z"⟩ : MethodName) prog_88_method_7_code 2 (some .boolean) :: ws) ({ frames := 0, cells := 0, slots := 0, locals := 0 } : Room)) (fun aA uU => aA = #[(.ref a), (.int i)] ∧ Z.Warmed39 uU.vm ∧ uU.heap = h0) (fun _ _ _ _ _ => True) (fun _ uU oO uU' => ∃ vV lA, oO = .returned vV ∧ Q_rm_isScored Z a i t z f h0 n0 vV uU'.heap lA ∧ FrameEnd uU oO uU' lA ({ frames := 0, cells := 0, slots := 0, locals := 0 } : Room).cells ({ frames := 0, cells := 0, slots := 0, locals := 0 } : Room).slots) := by
  refine MetFree.of_bodySF (plainFor_of_name own_pn_com_example_chains_to_rank_chainstorank_ranker_Scores) hisR ?_
  intro pP eE sS mM args below meth cC s₁ Bd hml0 hP hK
  obtain ⟨rfl, hZ, hh⟩ := hP
  have hx := Bd.exec
  have hby := Bd.bytes
  have hml : cC.maxLocals = 2 := hml0
  have hown : sS.vm.findClass "com/example/chains_to_rank/chainstorank/ranker/Scores" = some mM.cls := findClass_of_methodNamed Bd.named
  have hnm := (name_of_methodNamed Bd.named Bd.method).1
  have X0 : Stand pP lL eE ({ frames := 0, cells := 0, slots := 0, locals := 0 } : Room) sS mM #[(.ref a), (.int i)] below meth cC s₁ [] 0 0 := Stand.of_body Bd
  have e0 : s₁.heap = h0 := by rw [← hh, Bd.state]; rfl
  have N0 := Fr.nil n0
  have K0 := Keep.refl h0 ([] : List Addr)
  show own_Fin pP eE below (fun tT oO => ∃ vV lA, oO = .returned vV ∧ Q_rm_isScored Z a i t z f h0 n0 vV tT.heap lA ∧ FrameEnd sS oO tT lA ({ frames := 0, cells := 0, slots := 0, locals := 0 } : Room).cells ({ frames := 0, cells := 0, slots := 0, locals := 0 } : Room).slots) (s₁.setTop (entryFrame mM #[(.ref a), (.int i)] 2))
  refine own_fin (b := s₁.setTop (mkF mM 0 #[.val (.ref a), .val (.int i)] [])) (fun tT kK => castTop (own_ef_rm_isScored mM a i) kK) ?_
  refine own_fin (b := s₁.setTop (mkF mM 1 #[.val (.ref a), .val (.int i)] [(.ref a)])) (fun tT kK => ?_) ?_
  · show Steps pP.tables eE below (s₁.setTop (mkF mM 0 #[.val (.ref a), .val (.int i)] [])) tT
    refine XS.aloadN X0.here hx rfl (Jvm.hb hby own_d12_0) rfl rfl ?_
    show Steps pP.tables eE below (s₁.setTop (mkF mM 1 #[.val (.ref a), .val (.int i)] [(.ref a)])) tT
    exact kK
  obtain ⟨T1_, X1_, e1_, st1_⟩ := getF X0 hx hZ hown (host := "") (Or.inl (hw _ (List.mem_of_getElem? (i := 20) rfl))) Via.refl e0 F0 (g := (mkF mM 1 #[.val (.ref a), .val (.int i)] [(.ref a)])) rfl rfl (Jvm.hb hby own_d12_1)
  refine own_fin st1_ ?_
  show own_Fin pP eE below _ (T1_.setTop (mkF mM 4 #[.val (.ref a), .val (.int i)] [(.ref t)]))
  refine own_fin (b := T1_.setTop (mkF mM 5 #[.val (.ref a), .val (.int i)] [(.int i), (.ref t)])) (fun tT kK => ?_) ?_
  · show Steps pP.tables eE below (T1_.setTop (mkF mM 4 #[.val (.ref a), .val (.int i)] [(.ref t)])) tT
    refine XS.iloadN X1_.here hx rfl (Jvm.hb hby own_d12_4) rfl ?_
    show Steps pP.tables eE below (T1_.setTop (mkF mM 5 #[.val (.ref a), .val (.int i)] [(.int i), (.ref t)])) tT
    exact kK
  obtain ⟨cl2_, Ar2_, Sz2_, Nn2_, Hh2_⟩ := id Tt
  have hin2_ : ¬ (i < 0 ∨ cl2_.slots.size ≤ (i).toNatClampNeg) := inb_of Sz2_ hi
  have hat2_ : cl2_.slots[(i).toNatClampNeg]? = some (.int (f i)) := Hh2_ _ hin2_
  refine own_fin (b := T1_.setTop (mkF mM 6 #[.val (.ref a), .val (.int i)] [(.int (f i))])) (fun tT kK => ?_) ?_
  · show Steps pP.tables eE below (T1_.setTop (mkF mM 5 #[.val (.ref a), .val (.int i)] [(.int i), (.ref t)])) tT
    refine X1_.baloadBooleans hx (j := i) (v := (.int (f i))) (own_rw e1_ Ar2_.1) (State.isArrayOf_alike hZ.alike Ar2_.2.1) Ar2_.2.2 hin2_ hat2_ (g := (mkF mM 5 #[.val (.ref a), .val (.int i)] [(.int i), (.ref t)])) rfl rfl (Jvm.hb hby own_d12_5) _ ?_
    show Steps pP.tables eE below (T1_.setTop (mkF mM 6 #[.val (.ref a), .val (.int i)] [(.int (f i))])) tT
    exact kK
  obtain ⟨fs, hr, hrun, hended, hW, hsame⟩ := X1_.leave (v := some (.int (nar .boolean (f i)))) (fun h => by rw [Bd.returns] at h; cases h)
  refine ⟨_, _, ?_, hrun, hended, _, _, rfl, ?_, ⟨_, rfl⟩, hW, hsame.mono (by decide) (by decide)⟩
  · show Steps pP.tables eE below (T1_.setTop (mkF mM 6 #[.val (.ref a), .val (.int i)] [(.int (f i))])) _
    exact retN X1_ hx (t := .boolean) Bd.returns (by simp) (Jvm.hb hby own_d12_6) hr
  · show Q_rm_isScored Z a i t z f h0 n0 _ T1_.heap _
    rw [e1_]
    exact ⟨rfl, N0, rfl⟩
theorem own_d10_0 : decode prog_88_method_10_code 0 = .ok (.dload_n 0, 1) := by decide +kernel
theorem own_d10_1 : decode prog_88_method_10_code 1 = .ok (.dload 4, 2) := by decide +kernel
theorem own_d10_3 : decode prog_88_method_10_code 3 = .ok (.dsub, 1) := by decide +kernel
theorem own_d10_4 : decode prog_88_method_10_code 4 = .ok (.invokestatic 28, 3) := by decide +kernel
theorem own_d10_7 : decode prog_88_method_10_code 7 = .ok (.ldc2_w 38, 3) := by decide +kernel
theorem own_d10_10 : decode prog_88_method_10_code 10 = .ok (.dload_n 2, 1) := by decide +kernel
theorem own_d10_11 : decode prog_88_method_10_code 11 = .ok (.dload 6, 2) := by decide +kernel
theorem own_d10_13 : decode prog_88_method_10_code 13 = .ok (.invokestatic 40, 3) := by decide +kernel
theorem own_pd1 : parseMethodDescriptor "(DD)D" = some ⟨[.double, .double], some .double⟩ := by decide +kernel
theorem own_d10_16 : decode prog_88_method_10_code 16 = .ok (.dmul, 1) := by decide +kernel
theorem own_d10_17 : decode prog_88_method_10_code 17 = .ok (.dcmp .g, 1) := by decide +kernel
theorem own_d10_18 : decode prog_88_method_10_code 18 = .ok (.ifCond .gt 7, 3) := by decide +kernel
theorem own_d10_21 : decode prog_88_method_10_code 21 = .ok (.iconst 1, 1) := by decide +kernel
theorem own_d10_22 : decode prog_88_method_10_code 22 = .ok (.goto 4, 3) := by decide +kernel
theorem own_d10_26 : decode prog_88_method_10_code 26 = .ok (.ireturn, 1) := by decide +kernel
theorem own_d10_25 : decode prog_88_method_10_code 25 = .ok (.iconst 0, 1) := by decide +kernel
theorem own_ef_rm_same (mM : MethodId) (x0 : UInt64) (x1 : UInt64) (x2 : UInt64) (x3 : UInt64) : entryFrame mM #[(.double x0), (.double x1), (.double x2), (.double x3)] 8 = mkF mM 0 #[.val (.double x0), .second, .val (.double x1), .second, .val (.double x2), .second, .val (.double x3), .second] [] := by first | (simp [entryFrame, mkF, argsToLocals, Value.category]; done) | rfl
def Q_rm_same (Z : State) (t : Int32) (h0 : Heap) (n0 : Nat) (vV : Option Value) (hH : Heap) (lA : List Loc) : Prop := vV = some (.int (if t = (0 : Int32) then (1 : Int32) else (0 : Int32))) ∧ Fr n0 lA ∧ (hH = h0)
set_option maxRecDepth 65536 in
set_option maxHeartbeats 40000000 in
theorem rm_same (lL : Launch) (Z : State) (a0 : Array Value) (hw : ∀ d ∈ tables_1, d.before a0 Z = true) (ws : List Jvm.Cond) (t : Int32) (h0 : Heap) (n0 : Nat) (Z0 : n0 ≤ h0.size) :
    MetFree lL (⟨"com/example/chains_to_rank/chainstorank/ranker/Scores", "isSame", "(DDDD)Z"⟩ : MethodName) (head1 (Jvm.Cond.code (⟨"com/example/chains_to_rank/chainstorank/ranker/Scores", "isSame", "(DDDD)Z"⟩ : MethodName) prog_88_method_10_code 8 (some .boolean) :: ws) ({ frames := 1, cells := 0, slots := 0, locals := 19 } : Room)) (fun aA uU => aA = #[(.double (FP.i2d t)), (.double (own_ab (FP.i2d t))), (.double (0 : UInt64)), (.double (0 : UInt64))] ∧ Z.Warmed39 uU.vm ∧ uU.heap = h0) (fun _ _ _ _ _ => True) (fun _ uU oO uU' => ∃ vV lA, oO = .returned vV ∧ Q_rm_same Z t h0 n0 vV uU'.heap lA ∧ FrameEnd uU oO uU' lA ({ frames := 1, cells := 0, slots := 0, locals := 19 } : Room).cells ({ frames := 1, cells := 0, slots := 0, locals := 19 } : Room).slots) := by
  refine MetFree.of_bodySF (plainFor_of_name own_pn_com_example_chains_to_rank_chainstorank_ranker_Scores) hisR ?_
  intro pP eE sS mM args below meth cC s₁ Bd hml0 hP hK
  obtain ⟨rfl, hZ, hh⟩ := hP
  have hx := Bd.exec
  have hby := Bd.bytes
  have hml : cC.maxLocals = 8 := hml0
  have hown : sS.vm.findClass "com/example/chains_to_rank/chainstorank/ranker/Scores" = some mM.cls := findClass_of_methodNamed Bd.named
  have hnm := (name_of_methodNamed Bd.named Bd.method).1
  have X0 : Stand pP lL eE ({ frames := 1, cells := 0, slots := 0, locals := 19 } : Room) sS mM #[(.double (FP.i2d t)), (.double (own_ab (FP.i2d t))), (.double (0 : UInt64)), (.double (0 : UInt64))] below meth cC s₁ [] 0 0 := Stand.of_body Bd
  have e0 : s₁.heap = h0 := by rw [← hh, Bd.state]; rfl
  have N0 := Fr.nil n0
  have K0 := Keep.refl h0 ([] : List Addr)
  show own_Fin pP eE below (fun tT oO => ∃ vV lA, oO = .returned vV ∧ Q_rm_same Z t h0 n0 vV tT.heap lA ∧ FrameEnd sS oO tT lA ({ frames := 1, cells := 0, slots := 0, locals := 19 } : Room).cells ({ frames := 1, cells := 0, slots := 0, locals := 19 } : Room).slots) (s₁.setTop (entryFrame mM #[(.double (FP.i2d t)), (.double (own_ab (FP.i2d t))), (.double (0 : UInt64)), (.double (0 : UInt64))] 8))
  refine own_fin (b := s₁.setTop (mkF mM 0 #[.val (.double (FP.i2d t)), .second, .val (.double (own_ab (FP.i2d t))), .second, .val (.double (0 : UInt64)), .second, .val (.double (0 : UInt64)), .second] [])) (fun tT kK => castTop (own_ef_rm_same mM (FP.i2d t) (own_ab (FP.i2d t)) (0 : UInt64) (0 : UInt64)) kK) ?_
  refine own_fin (b := s₁.setTop (mkF mM 4 #[.val (.double (FP.i2d t)), .second, .val (.double (own_ab (FP.i2d t))), .second, .val (.double (0 : UInt64)), .second, .val (.double (0 : UInt64)), .second] [(.double (FP.i2d t))])) (fun tT kK => ?_) ?_
  · show Steps pP.tables eE below (s₁.setTop (mkF mM 0 #[.val (.double (FP.i2d t)), .second, .val (.double (own_ab (FP.i2d t))), .second, .val (.double (0 : UInt64)), .second, .val (.double (0 : UInt64)), .second] [])) tT
    refine XS.dloadN X0.here hx rfl (Jvm.hb hby own_d10_0) rfl ?_
    show Steps pP.tables eE below (s₁.setTop (mkF mM 1 #[.val (.double (FP.i2d t)), .second, .val (.double (own_ab (FP.i2d t))), .second, .val (.double (0 : UInt64)), .second, .val (.double (0 : UInt64)), .second] [(.double (FP.i2d t))])) tT
    refine XS.dload X0.here hx rfl (Jvm.hb hby own_d10_1) rfl ?_
    show Steps pP.tables eE below (s₁.setTop (mkF mM 3 #[.val (.double (FP.i2d t)), .second, .val (.double (own_ab (FP.i2d t))), .second, .val (.double (0 : UInt64)), .second, .val (.double (0 : UInt64)), .second] [(.double (0 : UInt64)), (.double (FP.i2d t))])) tT
    refine XS.dsubS X0.here hx rfl (Jvm.hb hby own_d10_3) rfl (by rw [own_sub0]; exact (i2d_fin t).noNaN) (v := (FP.i2d t)) (own_sub0 t) ?_
    show Steps pP.tables eE below (s₁.setTop (mkF mM 4 #[.val (.double (FP.i2d t)), .second, .val (.double (own_ab (FP.i2d t))), .second, .val (.double (0 : UInt64)), .second, .val (.double (0 : UInt64)), .second] [(.double (FP.i2d t))])) tT
    exact kK
  obtain ⟨T1_, X1_, e1_, st1_⟩ := natS X0 hx hZ hown (hw _ (List.mem_of_getElem? (i := 29) rfl)) (hw _ (List.mem_of_getElem? (i := 30) rfl)) (hw _ (List.mem_of_getElem? (i := 31) rfl)) (hw _ (List.mem_of_getElem? (i := 32) rfl)) (by decide) e0 (W := 0) (val' := (.double (own_ab (FP.i2d t)))) (fun hc => Jvm.Free.Fl.Abs.absD_pays (FP.i2d t) hc (by decide) (by decide)) (g := (mkF mM 4 #[.val (.double (FP.i2d t)), .second, .val (.double (own_ab (FP.i2d t))), .second, .val (.double (0 : UInt64)), .second, .val (.double (0 : UInt64)), .second] [(.double (FP.i2d t))])) rfl (by rw [hml]; rfl) (argsL := [(.double (FP.i2d t))]) (rest := []) (lenOf own_pd0 rfl) rfl (by show 2 * 0 + _ ≤ _; exact Nat.le_of_eq rfl) (Jvm.hb hby own_d10_4) (by decide) (by decide) ⟨rfl, (i2d_fin t).noNaN⟩ rfl
  refine own_fin st1_ ?_
  show own_Fin pP eE below _ (T1_.setTop (mkF mM 7 #[.val (.double (FP.i2d t)), .second, .val (.double (own_ab (FP.i2d t))), .second, .val (.double (0 : UInt64)), .second, .val (.double (0 : UInt64)), .second] [(.double (own_ab (FP.i2d t)))]))
  refine own_fin (b := T1_.setTop (mkF mM 13 #[.val (.double (FP.i2d t)), .second, .val (.double (own_ab (FP.i2d t))), .second, .val (.double (0 : UInt64)), .second, .val (.double (0 : UInt64)), .second] [(.double (0 : UInt64)), (.double (own_ab (FP.i2d t))), (.double (4457293557087583675 : UInt64)), (.double (own_ab (FP.i2d t)))])) (fun tT kK => ?_) ?_
  · show Steps pP.tables eE below (T1_.setTop (mkF mM 7 #[.val (.double (FP.i2d t)), .second, .val (.double (own_ab (FP.i2d t))), .second, .val (.double (0 : UInt64)), .second, .val (.double (0 : UInt64)), .second] [(.double (own_ab (FP.i2d t)))])) tT
    refine X1_.ldc2DoubleC hx hown (mvT hZ (hw _ (List.mem_of_getElem? (i := 61) rfl))) (g := (mkF mM 7 #[.val (.double (FP.i2d t)), .second, .val (.double (own_ab (FP.i2d t))), .second, .val (.double (0 : UInt64)), .second, .val (.double (0 : UInt64)), .second] [(.double (own_ab (FP.i2d t)))])) rfl (Jvm.hb hby own_d10_7) _ ?_
    show Steps pP.tables eE below (T1_.setTop (mkF mM 10 #[.val (.double (FP.i2d t)), .second, .val (.double (own_ab (FP.i2d t))), .second, .val (.double (0 : UInt64)), .second, .val (.double (0 : UInt64)), .second] [(.double (4457293557087583675 : UInt64)), (.double (own_ab (FP.i2d t)))])) tT
    refine XS.dloadN X1_.here hx rfl (Jvm.hb hby own_d10_10) rfl ?_
    show Steps pP.tables eE below (T1_.setTop (mkF mM 11 #[.val (.double (FP.i2d t)), .second, .val (.double (own_ab (FP.i2d t))), .second, .val (.double (0 : UInt64)), .second, .val (.double (0 : UInt64)), .second] [(.double (own_ab (FP.i2d t))), (.double (4457293557087583675 : UInt64)), (.double (own_ab (FP.i2d t)))])) tT
    refine XS.dload X1_.here hx rfl (Jvm.hb hby own_d10_11) rfl ?_
    show Steps pP.tables eE below (T1_.setTop (mkF mM 13 #[.val (.double (FP.i2d t)), .second, .val (.double (own_ab (FP.i2d t))), .second, .val (.double (0 : UInt64)), .second, .val (.double (0 : UInt64)), .second] [(.double (0 : UInt64)), (.double (own_ab (FP.i2d t))), (.double (4457293557087583675 : UInt64)), (.double (own_ab (FP.i2d t)))])) tT
    exact kK
  obtain ⟨T2_, X2_, e2_, st2_⟩ := natS X1_ hx hZ hown (hw _ (List.mem_of_getElem? (i := 62) rfl)) (hw _ (List.mem_of_getElem? (i := 63) rfl)) (hw _ (List.mem_of_getElem? (i := 31) rfl)) (hw _ (List.mem_of_getElem? (i := 64) rfl)) (by decide) e1_ (W := 4) (val' := (.double (own_ab (FP.i2d t)))) (fun hc => Jvm.Free.Fl.Abs.maxD_pays (own_ab (FP.i2d t)) (0 : UInt64) hc (by decide) (by decide)) (g := (mkF mM 13 #[.val (.double (FP.i2d t)), .second, .val (.double (own_ab (FP.i2d t))), .second, .val (.double (0 : UInt64)), .second, .val (.double (0 : UInt64)), .second] [(.double (0 : UInt64)), (.double (own_ab (FP.i2d t))), (.double (4457293557087583675 : UInt64)), (.double (own_ab (FP.i2d t)))])) rfl (by rw [hml]; rfl) (argsL := [(.double (own_ab (FP.i2d t))), (.double (0 : UInt64))]) (rest := [(.double (4457293557087583675 : UInt64)), (.double (own_ab (FP.i2d t)))]) (lenOf own_pd1 rfl) rfl (by show 2 * 0 + _ ≤ _; exact Nat.le_of_eq rfl) (Jvm.hb hby own_d10_13) (by decide) (by decide) ⟨rfl, own_abn (i2d_fin t).noNaN, own_zf.noNaN⟩ (congrArg Value.double (own_mx t))
  refine own_fin st2_ ?_
  show own_Fin pP eE below _ (T2_.setTop (mkF mM 16 #[.val (.double (FP.i2d t)), .second, .val (.double (own_ab (FP.i2d t))), .second, .val (.double (0 : UInt64)), .second, .val (.double (0 : UInt64)), .second] [(.double (own_ab (FP.i2d t))), (.double (4457293557087583675 : UInt64)), (.double (own_ab (FP.i2d t)))]))
  refine own_fin (b := T2_.setTop (mkF mM 17 #[.val (.double (FP.i2d t)), .second, .val (.double (own_ab (FP.i2d t))), .second, .val (.double (0 : UInt64)), .second, .val (.double (0 : UInt64)), .second] [(.double (FP.dmul (4457293557087583675 : UInt64) (own_ab (FP.i2d t)))), (.double (own_ab (FP.i2d t)))])) (fun tT kK => ?_) ?_
  · show Steps pP.tables eE below (T2_.setTop (mkF mM 16 #[.val (.double (FP.i2d t)), .second, .val (.double (own_ab (FP.i2d t))), .second, .val (.double (0 : UInt64)), .second, .val (.double (0 : UInt64)), .second] [(.double (own_ab (FP.i2d t))), (.double (4457293557087583675 : UInt64)), (.double (own_ab (FP.i2d t)))])) tT
    refine XS.dmulS X2_.here hx rfl (Jvm.hb hby own_d10_16) rfl (own_nnm t) (v := (FP.dmul (4457293557087583675 : UInt64) (own_ab (FP.i2d t)))) rfl ?_
    show Steps pP.tables eE below (T2_.setTop (mkF mM 17 #[.val (.double (FP.i2d t)), .second, .val (.double (own_ab (FP.i2d t))), .second, .val (.double (0 : UInt64)), .second, .val (.double (0 : UInt64)), .second] [(.double (FP.dmul (4457293557087583675 : UInt64) (own_ab (FP.i2d t)))), (.double (own_ab (FP.i2d t)))])) tT
    exact kK
  by_cases hc3_ : t = (0 : Int32)
  · show own_Fin pP eE below _ (T2_.setTop (mkF mM 17 #[.val (.double (FP.i2d t)), .second, .val (.double (own_ab (FP.i2d t))), .second, .val (.double (0 : UInt64)), .second, .val (.double (0 : UInt64)), .second] [(.double (FP.dmul (4457293557087583675 : UInt64) (own_ab (FP.i2d t)))), (.double (own_ab (FP.i2d t)))]))
    refine own_fin (b := T2_.setTop (mkF mM 26 #[.val (.double (FP.i2d t)), .second, .val (.double (own_ab (FP.i2d t))), .second, .val (.double (0 : UInt64)), .second, .val (.double (0 : UInt64)), .second] [(.int (1 : Int32))])) (fun tT kK => ?_) ?_
    · show Steps pP.tables eE below (T2_.setTop (mkF mM 17 #[.val (.double (FP.i2d t)), .second, .val (.double (own_ab (FP.i2d t))), .second, .val (.double (0 : UInt64)), .second, .val (.double (0 : UInt64)), .second] [(.double (FP.dmul (4457293557087583675 : UInt64) (own_ab (FP.i2d t)))), (.double (own_ab (FP.i2d t)))])) tT
      refine XS.dcmpS X2_.here hx rfl (Jvm.hb hby own_d10_17) rfl (v := (0 : Int32)) (by rw [hc3_]; exact own_eq0) ?_
      show Steps pP.tables eE below (T2_.setTop (mkF mM 18 #[.val (.double (FP.i2d t)), .second, .val (.double (own_ab (FP.i2d t))), .second, .val (.double (0 : UInt64)), .second, .val (.double (0 : UInt64)), .second] [(.int (0 : Int32))])) tT
      refine XS.ifNo X2_.here hx rfl (Jvm.hb hby own_d10_18) rfl ((if0 _ _).trans (flt ((by decide) : ¬ ((0 : Int32) < (0 : Int32)))).2.2.1) ?_
      show Steps pP.tables eE below (T2_.setTop (mkF mM 21 #[.val (.double (FP.i2d t)), .second, .val (.double (own_ab (FP.i2d t))), .second, .val (.double (0 : UInt64)), .second, .val (.double (0 : UInt64)), .second] [])) tT
      refine XS.iconst X2_.here hx rfl (Jvm.hb hby own_d10_21) ?_
      show Steps pP.tables eE below (T2_.setTop (mkF mM 22 #[.val (.double (FP.i2d t)), .second, .val (.double (own_ab (FP.i2d t))), .second, .val (.double (0 : UInt64)), .second, .val (.double (0 : UInt64)), .second] [(.int (1 : Int32))])) tT
      refine XS.goto X2_.here hx rfl (pc0 := 22) (pc' := 26) rfl (Jvm.hb hby own_d10_22) (by decide) (by decide) ?_
      show Steps pP.tables eE below (T2_.setTop (mkF mM 26 #[.val (.double (FP.i2d t)), .second, .val (.double (own_ab (FP.i2d t))), .second, .val (.double (0 : UInt64)), .second, .val (.double (0 : UInt64)), .second] [(.int (1 : Int32))])) tT
      exact kK
    obtain ⟨fs, hr, hrun, hended, hW, hsame⟩ := X2_.leave (v := some (.int (1 : Int32))) (fun h => by rw [Bd.returns] at h; cases h)
    refine ⟨_, _, ?_, hrun, hended, _, _, rfl, ?_, ⟨_, rfl⟩, hW, hsame.mono (by decide) (by decide)⟩
    · show Steps pP.tables eE below (T2_.setTop (mkF mM 26 #[.val (.double (FP.i2d t)), .second, .val (.double (own_ab (FP.i2d t))), .second, .val (.double (0 : UInt64)), .second, .val (.double (0 : UInt64)), .second] [(.int (1 : Int32))])) _
      exact retN X2_ hx (t := .boolean) Bd.returns (by simp) (Jvm.hb hby own_d10_26) hr
    · show Q_rm_same Z t h0 n0 _ T2_.heap _
      rw [e2_]
      exact ⟨by rw [if_pos hc3_], N0, rfl⟩
  · show own_Fin pP eE below _ (T2_.setTop (mkF mM 17 #[.val (.double (FP.i2d t)), .second, .val (.double (own_ab (FP.i2d t))), .second, .val (.double (0 : UInt64)), .second, .val (.double (0 : UInt64)), .second] [(.double (FP.dmul (4457293557087583675 : UInt64) (own_ab (FP.i2d t)))), (.double (own_ab (FP.i2d t)))]))
    refine own_fin (b := T2_.setTop (mkF mM 26 #[.val (.double (FP.i2d t)), .second, .val (.double (own_ab (FP.i2d t))), .second, .val (.double (0 : UInt64)), .second, .val (.double (0 : UInt64)), .second] [(.int (0 : Int32))])) (fun tT kK => ?_) ?_
    · show Steps pP.tables eE below (T2_.setTop (mkF mM 17 #[.val (.double (FP.i2d t)), .second, .val (.double (own_ab (FP.i2d t))), .second, .val (.double (0 : UInt64)), .second, .val (.double (0 : UInt64)), .second] [(.double (FP.dmul (4457293557087583675 : UInt64) (own_ab (FP.i2d t)))), (.double (own_ab (FP.i2d t)))])) tT
      refine XS.dcmpS X2_.here hx rfl (Jvm.hb hby own_d10_17) rfl (v := (1 : Int32)) (by rw [own_gt hc3_]; rfl) ?_
      show Steps pP.tables eE below (T2_.setTop (mkF mM 18 #[.val (.double (FP.i2d t)), .second, .val (.double (own_ab (FP.i2d t))), .second, .val (.double (0 : UInt64)), .second, .val (.double (0 : UInt64)), .second] [(.int (1 : Int32))])) tT
      refine XS.ifYes X2_.here hx rfl (pc0 := 18) (pc' := 25) rfl (Jvm.hb hby own_d10_18) rfl ((if0 _ _).trans (tlt ((by decide) : (0 : Int32) < (1 : Int32))).2.2.1) (by decide) (by decide) ?_
      show Steps pP.tables eE below (T2_.setTop (mkF mM 25 #[.val (.double (FP.i2d t)), .second, .val (.double (own_ab (FP.i2d t))), .second, .val (.double (0 : UInt64)), .second, .val (.double (0 : UInt64)), .second] [])) tT
      refine XS.iconst X2_.here hx rfl (Jvm.hb hby own_d10_25) ?_
      show Steps pP.tables eE below (T2_.setTop (mkF mM 26 #[.val (.double (FP.i2d t)), .second, .val (.double (own_ab (FP.i2d t))), .second, .val (.double (0 : UInt64)), .second, .val (.double (0 : UInt64)), .second] [(.int (0 : Int32))])) tT
      exact kK
    obtain ⟨fs, hr, hrun, hended, hW, hsame⟩ := X2_.leave (v := some (.int (0 : Int32))) (fun h => by rw [Bd.returns] at h; cases h)
    refine ⟨_, _, ?_, hrun, hended, _, _, rfl, ?_, ⟨_, rfl⟩, hW, hsame.mono (by decide) (by decide)⟩
    · show Steps pP.tables eE below (T2_.setTop (mkF mM 26 #[.val (.double (FP.i2d t)), .second, .val (.double (own_ab (FP.i2d t))), .second, .val (.double (0 : UInt64)), .second, .val (.double (0 : UInt64)), .second] [(.int (0 : Int32))])) _
      exact retN X2_ hx (t := .boolean) Bd.returns (by simp) (Jvm.hb hby own_d10_26) hr
    · show Q_rm_same Z t h0 n0 _ T2_.heap _
      rw [e2_]
      exact ⟨by rw [if_neg hc3_], N0, rfl⟩
theorem own_d9_0 : decode prog_88_method_9_code 0 = .ok (.aload_n 0, 1) := by decide +kernel
theorem own_d9_1 : decode prog_88_method_9_code 1 = .ok (.getfield 7, 3) := by decide +kernel
theorem own_d9_4 : decode prog_88_method_9_code 4 = .ok (.iload_n 1, 1) := by decide +kernel
theorem own_d9_5 : decode prog_88_method_9_code 5 = .ok (.daload, 1) := by decide +kernel
theorem own_d9_6 : decode prog_88_method_9_code 6 = .ok (.aload_n 0, 1) := by decide +kernel
theorem own_d9_7 : decode prog_88_method_9_code 7 = .ok (.getfield 13, 3) := by decide +kernel
theorem own_d9_10 : decode prog_88_method_9_code 10 = .ok (.iload_n 1, 1) := by decide +kernel
theorem own_d9_11 : decode prog_88_method_9_code 11 = .ok (.daload, 1) := by decide +kernel
theorem own_d9_12 : decode prog_88_method_9_code 12 = .ok (.dconst 0, 1) := by decide +kernel
theorem own_d9_13 : decode prog_88_method_9_code 13 = .ok (.dconst 0, 1) := by decide +kernel
theorem own_d9_14 : decode prog_88_method_9_code 14 = .ok (.invokestatic 34, 3) := by decide +kernel
theorem own_pd2 : parseMethodDescriptor "(DDDD)Z" = some ⟨[.double, .double, .double, .double], some .boolean⟩ := by decide +kernel
theorem own_d9_17 : decode prog_88_method_9_code 17 = .ok (.ireturn, 1) := by decide +kernel
theorem own_ef_rm_unsc (mM : MethodId) (x0 : Addr) (x1 : Int32) : entryFrame mM #[(.ref x0), (.int x1)] 2 = mkF mM 0 #[.val (.ref x0), .val (.int x1)] [] := by first | (simp [entryFrame, mkF, argsToLocals, Value.category]; done) | rfl
def Q_rm_unsc (Z : State) (a : Addr) (i : Int32) (v : Addr) (g : Addr) (z : Int32) (t : Int32) (vf : Int32 → UInt64) (gf : Int32 → UInt64) (h0 : Heap) (n0 : Nat) (vV : Option Value) (hH : Heap) (lA : List Loc) : Prop := vV = some (.int (if t = (0 : Int32) then (1 : Int32) else (0 : Int32))) ∧ Fr n0 lA ∧ (hH = h0)
set_option maxRecDepth 65536 in
set_option maxHeartbeats 40000000 in
theorem rm_unsc (lL : Launch) (Z : State) (a0 : Array Value) (hw : ∀ d ∈ tables_1, d.before a0 Z = true) (ws : List Jvm.Cond) (a : Addr) (i : Int32) (v : Addr) (g : Addr) (z : Int32) (t : Int32) (vf : Int32 → UInt64) (gf : Int32 → UInt64) (h0 : Heap) (n0 : Nat) (Z0 : n0 ≤ h0.size) (F0 : Fld Z h0 a "com/example/chains_to_rank/chainstorank/ranker/Scores" "values" "[D" (.ref v)) (F1 : Fld Z h0 a "com/example/chains_to_rank/chainstorank/ranker/Scores" "magnitudes" "[D" (.ref g)) (Tv : own_TD Z h0 v z vf) (Tg : own_TD Z h0 g z gf) (hi : ¬ i < 0 ∧ i < z) (h1 : vf i = FP.i2d t) (h2 : gf i = own_ab (FP.i2d t)) :
    MetFree lL (⟨"com/example/chains_to_rank/chainstorank/ranker/Scores", "isSameAsUnscored", "(I)Z"⟩ : MethodName) (head1 (Jvm.Cond.code (⟨"com/example/chains_to_rank/chainstorank/ranker/Scores", "isSameAsUnscored", "(I)Z"⟩ : MethodName) prog_88_method_9_code 2 (some .boolean) :: ws) ({ frames := 2, cells := 0, slots := 0, locals := 38 } : Room)) (fun aA uU => aA = #[(.ref a), (.int i)] ∧ Z.Warmed39 uU.vm ∧ uU.heap = h0) (fun _ _ _ _ _ => True) (fun _ uU oO uU' => ∃ vV lA, oO = .returned vV ∧ Q_rm_unsc Z a i v g z t vf gf h0 n0 vV uU'.heap lA ∧ FrameEnd uU oO uU' lA ({ frames := 2, cells := 0, slots := 0, locals := 38 } : Room).cells ({ frames := 2, cells := 0, slots := 0, locals := 38 } : Room).slots) := by
  refine MetFree.of_bodySF (plainFor_of_name own_pn_com_example_chains_to_rank_chainstorank_ranker_Scores) hisR ?_
  intro pP eE sS mM args below meth cC s₁ Bd hml0 hP hK
  obtain ⟨rfl, hZ, hh⟩ := hP
  have hx := Bd.exec
  have hby := Bd.bytes
  have hml : cC.maxLocals = 2 := hml0
  have hown : sS.vm.findClass "com/example/chains_to_rank/chainstorank/ranker/Scores" = some mM.cls := findClass_of_methodNamed Bd.named
  have hnm := (name_of_methodNamed Bd.named Bd.method).1
  have X0 : Stand pP lL eE ({ frames := 2, cells := 0, slots := 0, locals := 38 } : Room) sS mM #[(.ref a), (.int i)] below meth cC s₁ [] 0 0 := Stand.of_body Bd
  have e0 : s₁.heap = h0 := by rw [← hh, Bd.state]; rfl
  have N0 := Fr.nil n0
  have K0 := Keep.refl h0 ([] : List Addr)
  show own_Fin pP eE below (fun tT oO => ∃ vV lA, oO = .returned vV ∧ Q_rm_unsc Z a i v g z t vf gf h0 n0 vV tT.heap lA ∧ FrameEnd sS oO tT lA ({ frames := 2, cells := 0, slots := 0, locals := 38 } : Room).cells ({ frames := 2, cells := 0, slots := 0, locals := 38 } : Room).slots) (s₁.setTop (entryFrame mM #[(.ref a), (.int i)] 2))
  refine own_fin (b := s₁.setTop (mkF mM 0 #[.val (.ref a), .val (.int i)] [])) (fun tT kK => castTop (own_ef_rm_unsc mM a i) kK) ?_
  refine own_fin (b := s₁.setTop (mkF mM 1 #[.val (.ref a), .val (.int i)] [(.ref a)])) (fun tT kK => ?_) ?_
  · show Steps pP.tables eE below (s₁.setTop (mkF mM 0 #[.val (.ref a), .val (.int i)] [])) tT
    refine XS.aloadN X0.here hx rfl (Jvm.hb hby own_d9_0) rfl rfl ?_
    show Steps pP.tables eE below (s₁.setTop (mkF mM 1 #[.val (.ref a), .val (.int i)] [(.ref a)])) tT
    exact kK
  obtain ⟨T1_, X1_, e1_, st1_⟩ := getF X0 hx hZ hown (host := "") (Or.inl (hw _ (List.mem_of_getElem? (i := 12) rfl))) Via.refl e0 F0 (g := (mkF mM 1 #[.val (.ref a), .val (.int i)] [(.ref a)])) rfl rfl (Jvm.hb hby own_d9_1)
  refine own_fin st1_ ?_
  show own_Fin pP eE below _ (T1_.setTop (mkF mM 4 #[.val (.ref a), .val (.int i)] [(.ref v)]))
  refine own_fin (b := T1_.setTop (mkF mM 5 #[.val (.ref a), .val (.int i)] [(.int i), (.ref v)])) (fun tT kK => ?_) ?_
  · show Steps pP.tables eE below (T1_.setTop (mkF mM 4 #[.val (.ref a), .val (.int i)] [(.ref v)])) tT
    refine XS.iloadN X1_.here hx rfl (Jvm.hb hby own_d9_4) rfl ?_
    show Steps pP.tables eE below (T1_.setTop (mkF mM 5 #[.val (.ref a), .val (.int i)] [(.int i), (.ref v)])) tT
    exact kK
  obtain ⟨cl2_, Ar2_, Sz2_, Nn2_, Hh2_⟩ := id Tv
  have hin2_ : ¬ (i < 0 ∨ cl2_.slots.size ≤ (i).toNatClampNeg) := inb_of Sz2_ hi
  have hat2_ : cl2_.slots[(i).toNatClampNeg]? = some (.double (vf i)) := Hh2_ _ hin2_
  refine own_fin (b := T1_.setTop (mkF mM 6 #[.val (.ref a), .val (.int i)] [(.double (vf i))])) (fun tT kK => ?_) ?_
  · show Steps pP.tables eE below (T1_.setTop (mkF mM 5 #[.val (.ref a), .val (.int i)] [(.int i), (.ref v)])) tT
    refine X1_.daload hx (j := i) (v := (.double (vf i))) (own_rw e1_ Ar2_.1) (State.isArrayOf_alike hZ.alike Ar2_.2.1) Ar2_.2.2 hin2_ hat2_ (g := (mkF mM 5 #[.val (.ref a), .val (.int i)] [(.int i), (.ref v)])) rfl rfl (Jvm.hb hby own_d9_5) _ ?_
    show Steps pP.tables eE below (T1_.setTop (mkF mM 6 #[.val (.ref a), .val (.int i)] [(.double (vf i))])) tT
    exact kK
  rw [h1]
  show own_Fin pP eE below _ (T1_.setTop (mkF mM 6 #[.val (.ref a), .val (.int i)] [(.double (FP.i2d t))]))
  refine own_fin (b := T1_.setTop (mkF mM 7 #[.val (.ref a), .val (.int i)] [(.ref a), (.double (FP.i2d t))])) (fun tT kK => ?_) ?_
  · show Steps pP.tables eE below (T1_.setTop (mkF mM 6 #[.val (.ref a), .val (.int i)] [(.double (FP.i2d t))])) tT
    refine XS.aloadN X1_.here hx rfl (Jvm.hb hby own_d9_6) rfl rfl ?_
    show Steps pP.tables eE below (T1_.setTop (mkF mM 7 #[.val (.ref a), .val (.int i)] [(.ref a), (.double (FP.i2d t))])) tT
    exact kK
  obtain ⟨T3_, X3_, e3_, st3_⟩ := getF X1_ hx hZ hown (host := "") (Or.inl (hw _ (List.mem_of_getElem? (i := 14) rfl))) Via.refl e1_ F1 (g := (mkF mM 7 #[.val (.ref a), .val (.int i)] [(.ref a), (.double (FP.i2d t))])) rfl rfl (Jvm.hb hby own_d9_7)
  refine own_fin st3_ ?_
  show own_Fin pP eE below _ (T3_.setTop (mkF mM 10 #[.val (.ref a), .val (.int i)] [(.ref g), (.double (FP.i2d t))]))
  refine own_fin (b := T3_.setTop (mkF mM 11 #[.val (.ref a), .val (.int i)] [(.int i), (.ref g), (.double (FP.i2d t))])) (fun tT kK => ?_) ?_
  · show Steps pP.tables eE below (T3_.setTop (mkF mM 10 #[.val (.ref a), .val (.int i)] [(.ref g), (.double (FP.i2d t))])) tT
    refine XS.iloadN X3_.here hx rfl (Jvm.hb hby own_d9_10) rfl ?_
    show Steps pP.tables eE below (T3_.setTop (mkF mM 11 #[.val (.ref a), .val (.int i)] [(.int i), (.ref g), (.double (FP.i2d t))])) tT
    exact kK
  obtain ⟨cl4_, Ar4_, Sz4_, Nn4_, Hh4_⟩ := id Tg
  have hin4_ : ¬ (i < 0 ∨ cl4_.slots.size ≤ (i).toNatClampNeg) := inb_of Sz4_ hi
  have hat4_ : cl4_.slots[(i).toNatClampNeg]? = some (.double (gf i)) := Hh4_ _ hin4_
  refine own_fin (b := T3_.setTop (mkF mM 12 #[.val (.ref a), .val (.int i)] [(.double (gf i)), (.double (FP.i2d t))])) (fun tT kK => ?_) ?_
  · show Steps pP.tables eE below (T3_.setTop (mkF mM 11 #[.val (.ref a), .val (.int i)] [(.int i), (.ref g), (.double (FP.i2d t))])) tT
    refine X3_.daload hx (j := i) (v := (.double (gf i))) (own_rw e3_ Ar4_.1) (State.isArrayOf_alike hZ.alike Ar4_.2.1) Ar4_.2.2 hin4_ hat4_ (g := (mkF mM 11 #[.val (.ref a), .val (.int i)] [(.int i), (.ref g), (.double (FP.i2d t))])) rfl rfl (Jvm.hb hby own_d9_11) _ ?_
    show Steps pP.tables eE below (T3_.setTop (mkF mM 12 #[.val (.ref a), .val (.int i)] [(.double (gf i)), (.double (FP.i2d t))])) tT
    exact kK
  rw [h2]
  show own_Fin pP eE below _ (T3_.setTop (mkF mM 12 #[.val (.ref a), .val (.int i)] [(.double (own_ab (FP.i2d t))), (.double (FP.i2d t))]))
  refine own_fin (b := T3_.setTop (mkF mM 14 #[.val (.ref a), .val (.int i)] [(.double (0 : UInt64)), (.double (0 : UInt64)), (.double (own_ab (FP.i2d t))), (.double (FP.i2d t))])) (fun tT kK => ?_) ?_
  · show Steps pP.tables eE below (T3_.setTop (mkF mM 12 #[.val (.ref a), .val (.int i)] [(.double (own_ab (FP.i2d t))), (.double (FP.i2d t))])) tT
    refine XS.dconst0 X3_.here hx rfl (Jvm.hb hby own_d9_12) (v := (0 : UInt64)) rfl ?_
    show Steps pP.tables eE below (T3_.setTop (mkF mM 13 #[.val (.ref a), .val (.int i)] [(.double (0 : UInt64)), (.double (own_ab (FP.i2d t))), (.double (FP.i2d t))])) tT
    refine XS.dconst0 X3_.here hx rfl (Jvm.hb hby own_d9_13) (v := (0 : UInt64)) rfl ?_
    show Steps pP.tables eE below (T3_.setTop (mkF mM 14 #[.val (.ref a), .val (.int i)] [(.double (0 : UInt64)), (.double (0 : UInt64)), (.double (own_ab (FP.i2d t))), (.double (FP.i2d t))])) tT
    exact kK
  obtain ⟨_, _, ⟨T5_, L5_, k5_, n5_⟩, -, X5_, ⟨Lc5_, hQ5_, l5_, y5_, z5_⟩, st5_⟩ := Jvm.LawKit.callS X3_ hx (y := (⟨"com/example/chains_to_rank/chainstorank/ranker/Scores", "isSame", "(DDDD)Z"⟩ : MethodName)) hown (mvT hZ (hw _ (List.mem_of_getElem? (i := 58) rfl))) (mvT hZ (hw _ (List.mem_of_getElem? (i := 59) rfl))) (mvT hZ (hw _ (List.mem_of_getElem? (i := 4) rfl))) (mvT hZ (hw _ (List.mem_of_getElem? (i := 60) rfl))) (by decide) (backOf (W := 0) (rm_same lL Z a0 hw [] t h0 n0 (Nat.le_trans Z0 K0.1) ) hZ (hw _ (List.mem_of_getElem? (i := 60) rfl)) (hw _ (List.mem_of_getElem? (i := 4) rfl)) (by decide) (by decide)) (g := (mkF mM 14 #[.val (.ref a), .val (.int i)] [(.double (0 : UInt64)), (.double (0 : UInt64)), (.double (own_ab (FP.i2d t))), (.double (FP.i2d t))])) rfl (by rw [hml]; rfl) (argsL := [(.double (FP.i2d t)), (.double (own_ab (FP.i2d t))), (.double (0 : UInt64)), (.double (0 : UInt64))]) (rest := []) (lenOf own_pd2 rfl) rfl (by show 2 * 0 + _ ≤ _; exact Nat.le_of_eq rfl) (Jvm.hb hby own_d9_14) (fun _ _ => ⟨rfl, e3_, (by decide : 0 + 0 ≤ _), (by decide : 0 + 0 ≤ _)⟩)
  dsimp only [Pt.U, Pt.locs, Pt.cells, Pt.slots] at X5_ l5_ y5_ z5_ st5_ hQ5_
  subst l5_ y5_ z5_
  obtain ⟨rfl, N5_q, p5__0⟩ := hQ5_
  have N5_ := Fr.app N0 N5_q
  refine own_fin (fun tT kK => st5_ tT kK) ?_
  show own_Fin pP eE below _ (T5_.setTop (mkF mM 17 #[.val (.ref a), .val (.int i)] [(.int (if t = (0 : Int32) then (1 : Int32) else (0 : Int32)))]))
  obtain ⟨fs, hr, hrun, hended, hW, hsame⟩ := X5_.leave (v := some (.int (nar .boolean (if t = (0 : Int32) then (1 : Int32) else (0 : Int32))))) (fun h => by rw [Bd.returns] at h; cases h)
  refine ⟨_, _, ?_, hrun, hended, _, _, rfl, ?_, ⟨_, rfl⟩, hW, hsame.mono (by decide) (by decide)⟩
  · show Steps pP.tables eE below (T5_.setTop (mkF mM 17 #[.val (.ref a), .val (.int i)] [(.int (if t = (0 : Int32) then (1 : Int32) else (0 : Int32)))])) _
    exact retN X5_ hx (t := .boolean) Bd.returns (by simp) (Jvm.hb hby own_d9_17) hr
  · show Q_rm_unsc Z a i v g z t vf gf h0 n0 _ T5_.heap _
    rw [p5__0]
    exact ⟨by split <;> rfl, N5_, rfl⟩
def own_Inv (z c : Int32) (sf bf : Int32 → Int32) (vf gf : Int32 → UInt64) : Prop :=
  (c = 0 ∧ (∀ j : Int32, ¬ j < 0 ∧ j < z → bf j = (0 : Int32) ∧ vf j = (0 : UInt64) ∧ gf j = (0 : UInt64))) ∨ (c = 1 ∧ ((¬ (sf (0 : Int32)) < 0 ∧ (sf (0 : Int32)) < z) ∧ (0 : Int32) < z) ∧ (∀ j : Int32, ¬ j < 0 ∧ j < z → ¬ (sf (0 : Int32) = j) → bf j = (0 : Int32) ∧ vf j = (0 : UInt64) ∧ gf j = (0 : UInt64))) ∨ (c = 2 ∧ ((¬ (sf (0 : Int32)) < 0 ∧ (sf (0 : Int32)) < z) ∧ (0 : Int32) < z) ∧ ((¬ (sf (1 : Int32)) < 0 ∧ (sf (1 : Int32)) < z) ∧ (1 : Int32) < z) ∧ (∀ j : Int32, ¬ j < 0 ∧ j < z → ¬ (sf (0 : Int32) = j) → ¬ (sf (1 : Int32) = j) → bf j = (0 : Int32) ∧ vf j = (0 : UInt64) ∧ gf j = (0 : UInt64)))
theorem own_inv0 (z : Int32) (sf : Int32 → Int32) : own_Inv z 0 sf (fun _ => 0) (fun _ => 0) (fun _ => 0) := Or.inl ⟨rfl, fun _ _ => ⟨rfl, rfl, rfl⟩⟩
theorem own_inv1 {z a : Int32} {y w : UInt64} (ha : ¬ a < 0 ∧ a < z) (h0 : ¬ (0 : Int32) < 0 ∧ (0 : Int32) < z) : own_Inv z ((0 : Int32) + (1 : Int32)) (own_up (fun _ => (0 : Int32)) (0 : Int32) a) (own_up (fun _ => (0 : Int32)) a (1 : Int32)) (own_upD (fun _ => (0 : UInt64)) a y) (own_upD (fun _ => (0 : UInt64)) a w) := by
  refine Or.inr (Or.inl ⟨by decide, ⟨ha, h0.2⟩, fun j hj n => ?_⟩)
  have n' : ¬ a = j := n
  unfold own_up own_upD
  rw [if_neg n', if_neg n', if_neg n']; exact ⟨rfl, rfl, rfl⟩
theorem own_inv1b {z a : Int32} {y w y2 w2 : UInt64} (ha : ¬ a < 0 ∧ a < z) (h0 : ¬ (0 : Int32) < 0 ∧ (0 : Int32) < z) : own_Inv z ((0 : Int32) + (1 : Int32)) (own_up (fun _ => (0 : Int32)) (0 : Int32) a) (own_up (fun _ => (0 : Int32)) a (1 : Int32)) (own_upD (own_upD (fun _ => (0 : UInt64)) a y) a y2) (own_upD (own_upD (fun _ => (0 : UInt64)) a w) a w2) := by
  refine Or.inr (Or.inl ⟨by decide, ⟨ha, h0.2⟩, fun j hj n => ?_⟩)
  have n' : ¬ a = j := n
  unfold own_up own_upD
  rw [if_neg n', if_neg n', if_neg n', if_neg n', if_neg n']; exact ⟨rfl, rfl, rfl⟩
theorem own_inv1c {z a : Int32} {y w y2 w2 y3 w3 : UInt64} (ha : ¬ a < 0 ∧ a < z) (h0 : ¬ (0 : Int32) < 0 ∧ (0 : Int32) < z) : own_Inv z ((0 : Int32) + (1 : Int32)) (own_up (fun _ => (0 : Int32)) (0 : Int32) a) (own_up (fun _ => (0 : Int32)) a (1 : Int32)) (own_upD (own_upD (own_upD (fun _ => (0 : UInt64)) a y) a y2) a y3) (own_upD (own_upD (own_upD (fun _ => (0 : UInt64)) a w) a w2) a w3) := by
  refine Or.inr (Or.inl ⟨by decide, ⟨ha, h0.2⟩, fun j hj n => ?_⟩)
  have n' : ¬ a = j := n
  unfold own_up own_upD
  rw [if_neg n', if_neg n', if_neg n', if_neg n', if_neg n', if_neg n', if_neg n']; exact ⟨rfl, rfl, rfl⟩
theorem own_inv2 {z a b : Int32} {y w y2 w2 : UInt64} (ha : ¬ a < 0 ∧ a < z) (hb : ¬ b < 0 ∧ b < z) (h0 : ¬ (0 : Int32) < 0 ∧ (0 : Int32) < z) (h1 : ¬ (1 : Int32) < 0 ∧ (1 : Int32) < z) : own_Inv z (((0 : Int32) + (1 : Int32)) + (1 : Int32)) (own_up (own_up (fun _ => (0 : Int32)) (0 : Int32) a) ((0 : Int32) + (1 : Int32)) b) (own_up (own_up (fun _ => (0 : Int32)) a (1 : Int32)) b (1 : Int32)) (own_upD (own_upD (fun _ => (0 : UInt64)) a y) b y2) (own_upD (own_upD (fun _ => (0 : UInt64)) a w) b w2) := by
  refine Or.inr (Or.inr ⟨by decide, ⟨ha, h0.2⟩, ⟨hb, h1.2⟩, fun j hj n m => ?_⟩)
  have n' : ¬ a = j := n
  have m' : ¬ b = j := m
  unfold own_up own_upD
  rw [if_neg m', if_neg n', if_neg m', if_neg n', if_neg m', if_neg n']; exact ⟨rfl, rfl, rfl⟩
theorem own_inv2c {z a b : Int32} {y w y2 w2 y3 w3 : UInt64} (ha : ¬ a < 0 ∧ a < z) (hb : ¬ b < 0 ∧ b < z) (h0 : ¬ (0 : Int32) < 0 ∧ (0 : Int32) < z) (h1 : ¬ (1 : Int32) < 0 ∧ (1 : Int32) < z) : own_Inv z (((0 : Int32) + (1 : Int32)) + (1 : Int32)) (own_up (own_up (fun _ => (0 : Int32)) (0 : Int32) a) ((0 : Int32) + (1 : Int32)) b) (own_up (own_up (fun _ => (0 : Int32)) a (1 : Int32)) b (1 : Int32)) (own_upD (own_upD (own_upD (fun _ => (0 : UInt64)) a y) b y2) a y3) (own_upD (own_upD (own_upD (fun _ => (0 : UInt64)) a w) b w2) a w3) := by
  refine Or.inr (Or.inr ⟨by decide, ⟨ha, h0.2⟩, ⟨hb, h1.2⟩, fun j hj n m => ?_⟩)
  have n' : ¬ a = j := n
  have m' : ¬ b = j := m
  unfold own_up own_upD
  rw [if_neg m', if_neg n', if_neg n', if_neg m', if_neg n', if_neg n', if_neg m', if_neg n']; exact ⟨rfl, rfl, rfl⟩
theorem own_hit (f : Int32 → Int32) (i x : Int32) : own_up f i x i = x := if_pos rfl
theorem own_hitD (f : Int32 → UInt64) (i : Int32) (x : UInt64) : own_upD f i x i = x := if_pos rfl
theorem own_miss {f : Int32 → Int32} {i j x : Int32} (h : ¬ i = j) : own_up f i x j = f j := if_neg h
theorem own_missD {f : Int32 → UInt64} {i j : Int32} {x : UInt64} (h : ¬ i = j) : own_upD f i x j = f j := if_neg h
theorem own_pd3 : parseMethodDescriptor "(I)V" = some ⟨[.int], none⟩ := by decide +kernel
theorem own_pd4 : parseMethodDescriptor "(ID)V" = some ⟨[.int, .double], none⟩ := by decide +kernel
theorem own_pd5 : parseMethodDescriptor "()I" = some ⟨[], some .int⟩ := by decide +kernel
theorem own_pd6 : parseMethodDescriptor "(I)I" = some ⟨[.int], some .int⟩ := by decide +kernel
theorem own_pd7 : parseMethodDescriptor "(I)D" = some ⟨[.int], some .double⟩ := by decide +kernel
theorem own_pd8 : parseMethodDescriptor "(I)Z" = some ⟨[.int], some .boolean⟩ := by decide +kernel
theorem own_pd9 : parseMethodDescriptor "()V" = some ⟨[], none⟩ := by decide +kernel
theorem own_pn_com_example_chains_to_rank_chainstorank_ranker_ScoresClearPinLaw : plainName "com/example/chains_to_rank/chainstorank/ranker/ScoresClearPinLaw" = true := by first | (simp [plainName, overriddenIn]; done) | decide +kernel
theorem own_ef_rm0 (mM : MethodId) (x0 : Int32) (x1 : Int32) (x2 : Int32) (x3 : Int32) (x4 : Int32) (x5 : Int32) : entryFrame mM #[(.int x0), (.int x1), (.int x2), (.int x3), (.int x4), (.int x5)] maxLocals = mkF mM 0 #[.val (.int x0), .val (.int x1), .val (.int x2), .val (.int x3), .val (.int x4), .val (.int x5), .unset, .unset, .unset, .unset, .unset, .unset, .unset, .unset] [] := by first | (simp [entryFrame, mkF, argsToLocals, Value.category, maxLocals]; done) | rfl
def Q_rm0 (Z : State) (p1 : Int32) (p2 : Int32) (p3 : Int32) (p4 : Int32) (p5 : Int32) (p6 : Int32) (h0 : Heap) (n0 : Nat) (vV : Option Value) (hH : Heap) (lA : List Loc) : Prop := vV = some (.int (1 : Int32)) ∧ Fr n0 lA
set_option maxRecDepth 65536 in
set_option maxHeartbeats 40000000 in
theorem rm0 (lL : Launch) (Z : State) (a0 : Array Value) (hw : ∀ d ∈ tables_1, d.before a0 Z = true) (ws : List Jvm.Cond) (p1 : Int32) (p2 : Int32) (p3 : Int32) (p4 : Int32) (p5 : Int32) (p6 : Int32) (h0 : Heap) (n0 : Nat) (Z0 : n0 ≤ h0.size) :
    MetFree lL x (head1 (Jvm.Cond.code x code maxLocals ret :: ws) room_1) (fun aA uU => aA = #[(.int p1), (.int p2), (.int p3), (.int p4), (.int p5), (.int p6)] ∧ Z.Warmed39 uU.vm ∧ uU.heap = h0) (fun _ _ _ _ _ => True) (fun _ uU oO uU' => ∃ vV lA, oO = .returned vV ∧ Q_rm0 Z p1 p2 p3 p4 p5 p6 h0 n0 vV uU'.heap lA ∧ FrameEnd uU oO uU' lA room_1.cells room_1.slots) := by
  refine MetFree.of_bodySF (plainFor_of_name own_pn_com_example_chains_to_rank_chainstorank_ranker_ScoresClearPinLaw) hisR ?_
  intro pP eE sS mM args below meth cC s₁ Bd hml0 hP hK
  obtain ⟨rfl, hZ, hh⟩ := hP
  have hx := Bd.exec
  have hby := Bd.bytes
  have hml : cC.maxLocals = 14 := hml0
  have hown : sS.vm.findClass "com/example/chains_to_rank/chainstorank/ranker/ScoresClearPinLaw" = some mM.cls := findClass_of_methodNamed Bd.named
  have hnm := (name_of_methodNamed Bd.named Bd.method).1
  have X0 : Stand pP lL eE room_1 sS mM #[(.int p1), (.int p2), (.int p3), (.int p4), (.int p5), (.int p6)] below meth cC s₁ [] 0 0 := Stand.of_body Bd
  have e0 : s₁.heap = h0 := by rw [← hh, Bd.state]; rfl
  have N0 := Fr.nil n0
  have K0 := Keep.refl h0 ([] : List Addr)
  show own_Fin pP eE below (fun tT oO => ∃ vV lA, oO = .returned vV ∧ Q_rm0 Z p1 p2 p3 p4 p5 p6 h0 n0 vV tT.heap lA ∧ FrameEnd sS oO tT lA room_1.cells room_1.slots) (s₁.setTop (entryFrame mM #[(.int p1), (.int p2), (.int p3), (.int p4), (.int p5), (.int p6)] maxLocals))
  refine own_fin (b := s₁.setTop (mkF mM 0 #[.val (.int p1), .val (.int p2), .val (.int p3), .val (.int p4), .val (.int p5), .val (.int p6), .unset, .unset, .unset, .unset, .unset, .unset, .unset, .unset] [])) (fun tT kK => castTop (own_ef_rm0 mM p1 p2 p3 p4 p5 p6) kK) ?_
  refine own_fin (b := s₁.setTop (mkF mM 7 #[.val (.int p1), .val (.int p2), .val (.int p3), .val (.int p4), .val (.int p5), .val (.int p6), .val (.int ((1 : Int32) + (p1 &&& (3 : Int32)))), .unset, .unset, .unset, .unset, .unset, .unset, .unset] [])) (fun tT kK => ?_) ?_
  · show Steps pP.tables eE below (s₁.setTop (mkF mM 0 #[.val (.int p1), .val (.int p2), .val (.int p3), .val (.int p4), .val (.int p5), .val (.int p6), .unset, .unset, .unset, .unset, .unset, .unset, .unset, .unset] [])) tT
    refine XS.iconst X0.here hx rfl (Jvm.hb hby at_0) ?_
    show Steps pP.tables eE below (s₁.setTop (mkF mM 1 #[.val (.int p1), .val (.int p2), .val (.int p3), .val (.int p4), .val (.int p5), .val (.int p6), .unset, .unset, .unset, .unset, .unset, .unset, .unset, .unset] [(.int (1 : Int32))])) tT
    refine XS.iloadN X0.here hx rfl (Jvm.hb hby at_1) rfl ?_
    show Steps pP.tables eE below (s₁.setTop (mkF mM 2 #[.val (.int p1), .val (.int p2), .val (.int p3), .val (.int p4), .val (.int p5), .val (.int p6), .unset, .unset, .unset, .unset, .unset, .unset, .unset, .unset] [(.int p1), (.int (1 : Int32))])) tT
    refine XS.iconst X0.here hx rfl (Jvm.hb hby at_2) ?_
    show Steps pP.tables eE below (s₁.setTop (mkF mM 3 #[.val (.int p1), .val (.int p2), .val (.int p3), .val (.int p4), .val (.int p5), .val (.int p6), .unset, .unset, .unset, .unset, .unset, .unset, .unset, .unset] [(.int (3 : Int32)), (.int p1), (.int (1 : Int32))])) tT
    refine XS.iand X0.here hx rfl (Jvm.hb hby at_3) rfl ?_
    show Steps pP.tables eE below (s₁.setTop (mkF mM 4 #[.val (.int p1), .val (.int p2), .val (.int p3), .val (.int p4), .val (.int p5), .val (.int p6), .unset, .unset, .unset, .unset, .unset, .unset, .unset, .unset] [(.int (p1 &&& (3 : Int32))), (.int (1 : Int32))])) tT
    refine XS.iadd X0.here hx rfl (Jvm.hb hby at_4) rfl ?_
    show Steps pP.tables eE below (s₁.setTop (mkF mM 5 #[.val (.int p1), .val (.int p2), .val (.int p3), .val (.int p4), .val (.int p5), .val (.int p6), .unset, .unset, .unset, .unset, .unset, .unset, .unset, .unset] [(.int ((1 : Int32) + (p1 &&& (3 : Int32))))])) tT
    refine XS.istore X0.here hx rfl (Jvm.hb hby at_5) rfl (l' := #[.val (.int p1), .val (.int p2), .val (.int p3), .val (.int p4), .val (.int p5), .val (.int p6), .val (.int ((1 : Int32) + (p1 &&& (3 : Int32)))), .unset, .unset, .unset, .unset, .unset, .unset, .unset]) rfl ?_
    show Steps pP.tables eE below (s₁.setTop (mkF mM 7 #[.val (.int p1), .val (.int p2), .val (.int p3), .val (.int p4), .val (.int p5), .val (.int p6), .val (.int ((1 : Int32) + (p1 &&& (3 : Int32)))), .unset, .unset, .unset, .unset, .unset, .unset, .unset] [])) tT
    exact kK
  show own_Fin pP eE below _ (s₁.setTop (mkF mM 7 #[.val (.int p1), .val (.int p2), .val (.int p3), .val (.int p4), .val (.int p5), .val (.int p6), .val (.int ((1 : Int32) + (p1 &&& (3 : Int32)))), .unset, .unset, .unset, .unset, .unset, .unset, .unset] []))
  generalize hz_ : ((1 : Int32) + (p1 &&& (3 : Int32))) = z
  show own_Fin pP eE below _ (s₁.setTop (mkF mM 7 #[.val (.int p1), .val (.int p2), .val (.int p3), .val (.int p4), .val (.int p5), .val (.int p6), .val (.int z), .unset, .unset, .unset, .unset, .unset, .unset, .unset] []))
  have hzb := own_zb hz_
  refine own_fin (b := s₁.setTop (mkF mM 16 #[.val (.int p1), .val (.int p2), .val (.int p3), .val (.int p4), .val (.int p5), .val (.int p6), .val (.int z), .val (.int ((p2 &&& (2147483647 : Int32)) % z)), .unset, .unset, .unset, .unset, .unset, .unset] [])) (fun tT kK => ?_) ?_
  · show Steps pP.tables eE below (s₁.setTop (mkF mM 7 #[.val (.int p1), .val (.int p2), .val (.int p3), .val (.int p4), .val (.int p5), .val (.int p6), .val (.int z), .unset, .unset, .unset, .unset, .unset, .unset, .unset] [])) tT
    refine XS.iloadN X0.here hx rfl (Jvm.hb hby at_7) rfl ?_
    show Steps pP.tables eE below (s₁.setTop (mkF mM 8 #[.val (.int p1), .val (.int p2), .val (.int p3), .val (.int p4), .val (.int p5), .val (.int p6), .val (.int z), .unset, .unset, .unset, .unset, .unset, .unset, .unset] [(.int p2)])) tT
    refine X0.ldcInt hx hown (mvT hZ (hw _ (List.mem_of_getElem? (i := 0) rfl))) (g := (mkF mM 8 #[.val (.int p1), .val (.int p2), .val (.int p3), .val (.int p4), .val (.int p5), .val (.int p6), .val (.int z), .unset, .unset, .unset, .unset, .unset, .unset, .unset] [(.int p2)])) rfl (Jvm.hb hby at_8) _ ?_
    show Steps pP.tables eE below (s₁.setTop (mkF mM 10 #[.val (.int p1), .val (.int p2), .val (.int p3), .val (.int p4), .val (.int p5), .val (.int p6), .val (.int z), .unset, .unset, .unset, .unset, .unset, .unset, .unset] [(.int (2147483647 : Int32)), (.int p2)])) tT
    refine XS.iand X0.here hx rfl (Jvm.hb hby at_10) rfl ?_
    show Steps pP.tables eE below (s₁.setTop (mkF mM 11 #[.val (.int p1), .val (.int p2), .val (.int p3), .val (.int p4), .val (.int p5), .val (.int p6), .val (.int z), .unset, .unset, .unset, .unset, .unset, .unset, .unset] [(.int (p2 &&& (2147483647 : Int32)))])) tT
    refine XS.iload X0.here hx rfl (Jvm.hb hby at_11) rfl ?_
    show Steps pP.tables eE below (s₁.setTop (mkF mM 13 #[.val (.int p1), .val (.int p2), .val (.int p3), .val (.int p4), .val (.int p5), .val (.int p6), .val (.int z), .unset, .unset, .unset, .unset, .unset, .unset, .unset] [(.int z), (.int (p2 &&& (2147483647 : Int32)))])) tT
    refine iremM X0 hx rfl (Jvm.hb hby at_13) rfl (own_znz hzb) ?_
    show Steps pP.tables eE below (s₁.setTop (mkF mM 14 #[.val (.int p1), .val (.int p2), .val (.int p3), .val (.int p4), .val (.int p5), .val (.int p6), .val (.int z), .unset, .unset, .unset, .unset, .unset, .unset, .unset] [(.int ((p2 &&& (2147483647 : Int32)) % z))])) tT
    refine XS.istore X0.here hx rfl (Jvm.hb hby at_14) rfl (l' := #[.val (.int p1), .val (.int p2), .val (.int p3), .val (.int p4), .val (.int p5), .val (.int p6), .val (.int z), .val (.int ((p2 &&& (2147483647 : Int32)) % z)), .unset, .unset, .unset, .unset, .unset, .unset]) rfl ?_
    show Steps pP.tables eE below (s₁.setTop (mkF mM 16 #[.val (.int p1), .val (.int p2), .val (.int p3), .val (.int p4), .val (.int p5), .val (.int p6), .val (.int z), .val (.int ((p2 &&& (2147483647 : Int32)) % z)), .unset, .unset, .unset, .unset, .unset, .unset] [])) tT
    exact kK
  show own_Fin pP eE below _ (s₁.setTop (mkF mM 16 #[.val (.int p1), .val (.int p2), .val (.int p3), .val (.int p4), .val (.int p5), .val (.int p6), .val (.int z), .val (.int ((p2 &&& (2147483647 : Int32)) % z)), .unset, .unset, .unset, .unset, .unset, .unset] []))
  generalize hav : ((p2 &&& (2147483647 : Int32)) % z) = av
  show own_Fin pP eE below _ (s₁.setTop (mkF mM 16 #[.val (.int p1), .val (.int p2), .val (.int p3), .val (.int p4), .val (.int p5), .val (.int p6), .val (.int z), .val (.int av), .unset, .unset, .unset, .unset, .unset, .unset] []))
  have hai := own_inr hzb.1 hav
  refine own_fin (b := s₁.setTop (mkF mM 25 #[.val (.int p1), .val (.int p2), .val (.int p3), .val (.int p4), .val (.int p5), .val (.int p6), .val (.int z), .val (.int av), .val (.int ((p3 &&& (2147483647 : Int32)) % z)), .unset, .unset, .unset, .unset, .unset] [])) (fun tT kK => ?_) ?_
  · show Steps pP.tables eE below (s₁.setTop (mkF mM 16 #[.val (.int p1), .val (.int p2), .val (.int p3), .val (.int p4), .val (.int p5), .val (.int p6), .val (.int z), .val (.int av), .unset, .unset, .unset, .unset, .unset, .unset] [])) tT
    refine XS.iloadN X0.here hx rfl (Jvm.hb hby at_16) rfl ?_
    show Steps pP.tables eE below (s₁.setTop (mkF mM 17 #[.val (.int p1), .val (.int p2), .val (.int p3), .val (.int p4), .val (.int p5), .val (.int p6), .val (.int z), .val (.int av), .unset, .unset, .unset, .unset, .unset, .unset] [(.int p3)])) tT
    refine X0.ldcInt hx hown (mvT hZ (hw _ (List.mem_of_getElem? (i := 0) rfl))) (g := (mkF mM 17 #[.val (.int p1), .val (.int p2), .val (.int p3), .val (.int p4), .val (.int p5), .val (.int p6), .val (.int z), .val (.int av), .unset, .unset, .unset, .unset, .unset, .unset] [(.int p3)])) rfl (Jvm.hb hby at_17) _ ?_
    show Steps pP.tables eE below (s₁.setTop (mkF mM 19 #[.val (.int p1), .val (.int p2), .val (.int p3), .val (.int p4), .val (.int p5), .val (.int p6), .val (.int z), .val (.int av), .unset, .unset, .unset, .unset, .unset, .unset] [(.int (2147483647 : Int32)), (.int p3)])) tT
    refine XS.iand X0.here hx rfl (Jvm.hb hby at_19) rfl ?_
    show Steps pP.tables eE below (s₁.setTop (mkF mM 20 #[.val (.int p1), .val (.int p2), .val (.int p3), .val (.int p4), .val (.int p5), .val (.int p6), .val (.int z), .val (.int av), .unset, .unset, .unset, .unset, .unset, .unset] [(.int (p3 &&& (2147483647 : Int32)))])) tT
    refine XS.iload X0.here hx rfl (Jvm.hb hby at_20) rfl ?_
    show Steps pP.tables eE below (s₁.setTop (mkF mM 22 #[.val (.int p1), .val (.int p2), .val (.int p3), .val (.int p4), .val (.int p5), .val (.int p6), .val (.int z), .val (.int av), .unset, .unset, .unset, .unset, .unset, .unset] [(.int z), (.int (p3 &&& (2147483647 : Int32)))])) tT
    refine iremM X0 hx rfl (Jvm.hb hby at_22) rfl (own_znz hzb) ?_
    show Steps pP.tables eE below (s₁.setTop (mkF mM 23 #[.val (.int p1), .val (.int p2), .val (.int p3), .val (.int p4), .val (.int p5), .val (.int p6), .val (.int z), .val (.int av), .unset, .unset, .unset, .unset, .unset, .unset] [(.int ((p3 &&& (2147483647 : Int32)) % z))])) tT
    refine XS.istore X0.here hx rfl (Jvm.hb hby at_23) rfl (l' := #[.val (.int p1), .val (.int p2), .val (.int p3), .val (.int p4), .val (.int p5), .val (.int p6), .val (.int z), .val (.int av), .val (.int ((p3 &&& (2147483647 : Int32)) % z)), .unset, .unset, .unset, .unset, .unset]) rfl ?_
    show Steps pP.tables eE below (s₁.setTop (mkF mM 25 #[.val (.int p1), .val (.int p2), .val (.int p3), .val (.int p4), .val (.int p5), .val (.int p6), .val (.int z), .val (.int av), .val (.int ((p3 &&& (2147483647 : Int32)) % z)), .unset, .unset, .unset, .unset, .unset] [])) tT
    exact kK
  show own_Fin pP eE below _ (s₁.setTop (mkF mM 25 #[.val (.int p1), .val (.int p2), .val (.int p3), .val (.int p4), .val (.int p5), .val (.int p6), .val (.int z), .val (.int av), .val (.int ((p3 &&& (2147483647 : Int32)) % z)), .unset, .unset, .unset, .unset, .unset] []))
  generalize hbv : ((p3 &&& (2147483647 : Int32)) % z) = bv
  show own_Fin pP eE below _ (s₁.setTop (mkF mM 25 #[.val (.int p1), .val (.int p2), .val (.int p3), .val (.int p4), .val (.int p5), .val (.int p6), .val (.int z), .val (.int av), .val (.int bv), .unset, .unset, .unset, .unset, .unset] []))
  have hbi := own_inr hzb.1 hbv
  refine own_fin (b := s₁.setTop (mkF mM 30 #[.val (.int p1), .val (.int p2), .val (.int p3), .val (.int p4), .val (.int p5), .val (.int p6), .val (.int z), .val (.int av), .val (.int bv), .val (.int (p4 &&& (3 : Int32))), .unset, .unset, .unset, .unset] [])) (fun tT kK => ?_) ?_
  · show Steps pP.tables eE below (s₁.setTop (mkF mM 25 #[.val (.int p1), .val (.int p2), .val (.int p3), .val (.int p4), .val (.int p5), .val (.int p6), .val (.int z), .val (.int av), .val (.int bv), .unset, .unset, .unset, .unset, .unset] [])) tT
    refine XS.iloadN X0.here hx rfl (Jvm.hb hby at_25) rfl ?_
    show Steps pP.tables eE below (s₁.setTop (mkF mM 26 #[.val (.int p1), .val (.int p2), .val (.int p3), .val (.int p4), .val (.int p5), .val (.int p6), .val (.int z), .val (.int av), .val (.int bv), .unset, .unset, .unset, .unset, .unset] [(.int p4)])) tT
    refine XS.iconst X0.here hx rfl (Jvm.hb hby at_26) ?_
    show Steps pP.tables eE below (s₁.setTop (mkF mM 27 #[.val (.int p1), .val (.int p2), .val (.int p3), .val (.int p4), .val (.int p5), .val (.int p6), .val (.int z), .val (.int av), .val (.int bv), .unset, .unset, .unset, .unset, .unset] [(.int (3 : Int32)), (.int p4)])) tT
    refine XS.iand X0.here hx rfl (Jvm.hb hby at_27) rfl ?_
    show Steps pP.tables eE below (s₁.setTop (mkF mM 28 #[.val (.int p1), .val (.int p2), .val (.int p3), .val (.int p4), .val (.int p5), .val (.int p6), .val (.int z), .val (.int av), .val (.int bv), .unset, .unset, .unset, .unset, .unset] [(.int (p4 &&& (3 : Int32)))])) tT
    refine XS.istore X0.here hx rfl (Jvm.hb hby at_28) rfl (l' := #[.val (.int p1), .val (.int p2), .val (.int p3), .val (.int p4), .val (.int p5), .val (.int p6), .val (.int z), .val (.int av), .val (.int bv), .val (.int (p4 &&& (3 : Int32))), .unset, .unset, .unset, .unset]) rfl ?_
    show Steps pP.tables eE below (s₁.setTop (mkF mM 30 #[.val (.int p1), .val (.int p2), .val (.int p3), .val (.int p4), .val (.int p5), .val (.int p6), .val (.int z), .val (.int av), .val (.int bv), .val (.int (p4 &&& (3 : Int32))), .unset, .unset, .unset, .unset] [])) tT
    exact kK
  show own_Fin pP eE below _ (s₁.setTop (mkF mM 30 #[.val (.int p1), .val (.int p2), .val (.int p3), .val (.int p4), .val (.int p5), .val (.int p6), .val (.int z), .val (.int av), .val (.int bv), .val (.int (p4 &&& (3 : Int32))), .unset, .unset, .unset, .unset] []))
  generalize hkv : (p4 &&& (3 : Int32)) = kv
  show own_Fin pP eE below _ (s₁.setTop (mkF mM 30 #[.val (.int p1), .val (.int p2), .val (.int p3), .val (.int p4), .val (.int p5), .val (.int p6), .val (.int z), .val (.int av), .val (.int bv), .val (.int kv), .unset, .unset, .unset, .unset] []))
  have hk4 := own_and3 p4
  rw [hkv] at hk4
  clear hkv
  clear hav
  clear hbv
  refine own_fin (b := s₁.setTop (mkF mM 35 #[.val (.int p1), .val (.int p2), .val (.int p3), .val (.int p4), .val (.int p5), .val (.int p6), .val (.int z), .val (.int av), .val (.int bv), .val (.int kv), .val (.double (4787326403894837248 : UInt64)), .second, .unset, .unset] [])) (fun tT kK => ?_) ?_
  · show Steps pP.tables eE below (s₁.setTop (mkF mM 30 #[.val (.int p1), .val (.int p2), .val (.int p3), .val (.int p4), .val (.int p5), .val (.int p6), .val (.int z), .val (.int av), .val (.int bv), .val (.int kv), .unset, .unset, .unset, .unset] [])) tT
    refine X0.ldc2DoubleC hx hown (mvT hZ (hw _ (List.mem_of_getElem? (i := 1) rfl))) (g := (mkF mM 30 #[.val (.int p1), .val (.int p2), .val (.int p3), .val (.int p4), .val (.int p5), .val (.int p6), .val (.int z), .val (.int av), .val (.int bv), .val (.int kv), .unset, .unset, .unset, .unset] [])) rfl (Jvm.hb hby at_30) _ ?_
    show Steps pP.tables eE below (s₁.setTop (mkF mM 33 #[.val (.int p1), .val (.int p2), .val (.int p3), .val (.int p4), .val (.int p5), .val (.int p6), .val (.int z), .val (.int av), .val (.int bv), .val (.int kv), .unset, .unset, .unset, .unset] [(.double (4787326403894837248 : UInt64))])) tT
    refine XS.dstore X0.here hx rfl (Jvm.hb hby at_33) rfl (l' := #[.val (.int p1), .val (.int p2), .val (.int p3), .val (.int p4), .val (.int p5), .val (.int p6), .val (.int z), .val (.int av), .val (.int bv), .val (.int kv), .val (.double (4787326403894837248 : UInt64)), .second, .unset, .unset]) rfl ?_
    show Steps pP.tables eE below (s₁.setTop (mkF mM 35 #[.val (.int p1), .val (.int p2), .val (.int p3), .val (.int p4), .val (.int p5), .val (.int p6), .val (.int z), .val (.int av), .val (.int bv), .val (.int kv), .val (.double (4787326403894837248 : UInt64)), .second, .unset, .unset] [])) tT
    exact kK
  obtain ⟨T1_, h1_, X1_, e1_, E1_, A1_, D1_, -, st1_⟩ := newO X0 hx hZ hown (hw _ (List.mem_of_getElem? (i := 2) rfl)) (hw _ (List.mem_of_getElem? (i := 3) rfl)) (hw _ (List.mem_of_getElem? (i := 4) rfl)) e0 (g := (mkF mM 35 #[.val (.int p1), .val (.int p2), .val (.int p3), .val (.int p4), .val (.int p5), .val (.int p6), .val (.int z), .val (.int av), .val (.int bv), .val (.int kv), .val (.double (4787326403894837248 : UInt64)), .second, .unset, .unset] [])) rfl (Jvm.hb hby at_35) (by decide) (by decide)
  obtain ⟨b1_, g1_⟩ : ∃ z, z = h0.size := ⟨_, rfl⟩
  rw [← g1_] at A1_ D1_ st1_
  have sz_b1_ : h0.size ≤ b1_ := Nat.le_trans K0.1 (Nat.le_of_eq g1_.symm)
  have ge_b1_ : n0 ≤ b1_ := Nat.le_trans Z0 sz_b1_
  have K1_ := K0.ext E1_
  have F1__values : Fld Z h1_ b1_ "com/example/chains_to_rank/chainstorank/ranker/Scores" "values" "[D" .null := D1_ (Or.inr (hw _ (List.mem_of_getElem? (i := 13) rfl))) (ty := (.array .double)) (by decide)
  have F1__magnitudes : Fld Z h1_ b1_ "com/example/chains_to_rank/chainstorank/ranker/Scores" "magnitudes" "[D" .null := D1_ (Or.inr (hw _ (List.mem_of_getElem? (i := 15) rfl))) (ty := (.array .double)) (by decide)
  have F1__scored : Fld Z h1_ b1_ "com/example/chains_to_rank/chainstorank/ranker/Scores" "scored" "[I" .null := D1_ (Or.inr (hw _ (List.mem_of_getElem? (i := 18) rfl))) (ty := (.array .int)) (by decide)
  have F1__isScored : Fld Z h1_ b1_ "com/example/chains_to_rank/chainstorank/ranker/Scores" "isScored" "[Z" .null := D1_ (Or.inr (hw _ (List.mem_of_getElem? (i := 21) rfl))) (ty := (.array .boolean)) (by decide)
  have F1__scoredCount : Fld Z h1_ b1_ "com/example/chains_to_rank/chainstorank/ranker/Scores" "scoredCount" "I" (.int (0 : Int32)) := D1_ (Or.inl (hw _ (List.mem_of_getElem? (i := 28) rfl))) (ty := .int) (by decide)
  refine own_fin st1_ ?_
  show own_Fin pP eE below _ (T1_.setTop (mkF mM 38 #[.val (.int p1), .val (.int p2), .val (.int p3), .val (.int p4), .val (.int p5), .val (.int p6), .val (.int z), .val (.int av), .val (.int bv), .val (.int kv), .val (.double (4787326403894837248 : UInt64)), .second, .unset, .unset] [(.ref b1_)]))
  refine own_fin (b := T1_.setTop (mkF mM 41 #[.val (.int p1), .val (.int p2), .val (.int p3), .val (.int p4), .val (.int p5), .val (.int p6), .val (.int z), .val (.int av), .val (.int bv), .val (.int kv), .val (.double (4787326403894837248 : UInt64)), .second, .unset, .unset] [(.int z), (.ref b1_), (.ref b1_)])) (fun tT kK => ?_) ?_
  · show Steps pP.tables eE below (T1_.setTop (mkF mM 38 #[.val (.int p1), .val (.int p2), .val (.int p3), .val (.int p4), .val (.int p5), .val (.int p6), .val (.int z), .val (.int av), .val (.int bv), .val (.int kv), .val (.double (4787326403894837248 : UInt64)), .second, .unset, .unset] [(.ref b1_)])) tT
    refine XS.dup X1_.here hx rfl (Jvm.hb hby at_38) rfl rfl ?_
    show Steps pP.tables eE below (T1_.setTop (mkF mM 39 #[.val (.int p1), .val (.int p2), .val (.int p3), .val (.int p4), .val (.int p5), .val (.int p6), .val (.int z), .val (.int av), .val (.int bv), .val (.int kv), .val (.double (4787326403894837248 : UInt64)), .second, .unset, .unset] [(.ref b1_), (.ref b1_)])) tT
    refine XS.iload X1_.here hx rfl (Jvm.hb hby at_39) rfl ?_
    show Steps pP.tables eE below (T1_.setTop (mkF mM 41 #[.val (.int p1), .val (.int p2), .val (.int p3), .val (.int p4), .val (.int p5), .val (.int p6), .val (.int z), .val (.int av), .val (.int bv), .val (.int kv), .val (.double (4787326403894837248 : UInt64)), .second, .unset, .unset] [(.int z), (.ref b1_), (.ref b1_)])) tT
    exact kK
  obtain ⟨_, _, ⟨T2_, L2_, k2_, n2_⟩, -, X2_, ⟨Lc2_, hQ2_, l2_, y2_, z2_⟩, st2_⟩ := X1_.specialBack hx (y := (⟨"com/example/chains_to_rank/chainstorank/ranker/Scores", "<init>", "(I)V"⟩ : MethodName)) rfl hown (mvT hZ (hw _ (List.mem_of_getElem? (i := 5) rfl))) (mvT hZ (hw _ (List.mem_of_getElem? (i := 6) rfl))) (mvT hZ (hw _ (List.mem_of_getElem? (i := 7) rfl))) (by decide) (backOf (W := 1) (rm_init lL Z a0 hw [] b1_ z h1_ n0 (Nat.le_trans Z0 K1_.1) A1_ F1__values F1__magnitudes F1__scored F1__isScored F1__scoredCount ge_b1_ hzb) hZ (hw _ (List.mem_of_getElem? (i := 7) rfl)) (hw _ (List.mem_of_getElem? (i := 4) rfl)) (by decide) (by decide)) (g := (mkF mM 41 #[.val (.int p1), .val (.int p2), .val (.int p3), .val (.int p4), .val (.int p5), .val (.int p6), .val (.int z), .val (.int av), .val (.int bv), .val (.int kv), .val (.double (4787326403894837248 : UInt64)), .second, .unset, .unset] [(.int z), (.ref b1_), (.ref b1_)])) rfl (by rw [hml]; rfl) (Steps.refl _) (a := b1_) (argsL := [(.int z)]) (rest := [(.ref b1_)]) (lenOf own_pd3 rfl) rfl (by show 2 * 0 + _ ≤ _; exact Nat.le_of_eq rfl) (Jvm.hb hby at_41) (fun _ _ => ⟨rfl, e1_, (by decide : 1 + 4 ≤ _), (by decide : 5 + 16 ≤ _)⟩)
  dsimp only [Pt.U, Pt.locs, Pt.cells, Pt.slots] at X2_ l2_ y2_ z2_ st2_ hQ2_
  subst l2_ y2_ z2_
  obtain ⟨v_2_, g_2_, s_2_, b_2_, rfl, N2_q, p2__0, p2__1, p2__2, p2__3, p2__4, p2__5, p2__6, p2__7, p2__8, p2__9, p2__10, p2__11, p2__12, p2__13, p2__14, p2__15, p2__16, p2__17, p2__18, p2__19, p2__20⟩ := hQ2_
  have N2_ := Fr.app N0 N2_q
  have sz_v_2_ : h0.size ≤ v_2_ := Nat.le_trans K1_.1 p2__1
  have ge_v_2_ : n0 ≤ v_2_ := Nat.le_trans Z0 sz_v_2_
  have ne3_ : b1_ ≠ v_2_ := Nat.ne_of_lt (Nat.lt_of_lt_of_le A1_.lt p2__1)
  have sz_g_2_ : h0.size ≤ g_2_ := Nat.le_trans K1_.1 p2__2
  have ge_g_2_ : n0 ≤ g_2_ := Nat.le_trans Z0 sz_g_2_
  have ne4_ : b1_ ≠ g_2_ := Nat.ne_of_lt (Nat.lt_of_lt_of_le A1_.lt p2__2)
  have sz_s_2_ : h0.size ≤ s_2_ := Nat.le_trans K1_.1 p2__3
  have ge_s_2_ : n0 ≤ s_2_ := Nat.le_trans Z0 sz_s_2_
  have ne5_ : b1_ ≠ s_2_ := Nat.ne_of_lt (Nat.lt_of_lt_of_le A1_.lt p2__3)
  have sz_b_2_ : h0.size ≤ b_2_ := Nat.le_trans K1_.1 p2__4
  have ge_b_2_ : n0 ≤ b_2_ := Nat.le_trans Z0 sz_b_2_
  have ne6_ : b1_ ≠ b_2_ := Nat.ne_of_lt (Nat.lt_of_lt_of_le A1_.lt p2__4)
  have fc7_ := A1_.keep p2__0
  have K2_ := K1_.trans p2__0 (allS (Or.inr sz_b1_) all0)
  refine own_fin (fun tT kK => st2_.trans kK) ?_
  show own_Fin pP eE below _ (T2_.setTop (mkF mM 44 #[.val (.int p1), .val (.int p2), .val (.int p3), .val (.int p4), .val (.int p5), .val (.int p6), .val (.int z), .val (.int av), .val (.int bv), .val (.int kv), .val (.double (4787326403894837248 : UInt64)), .second, .unset, .unset] [(.ref b1_)]))
  refine own_fin (b := T2_.setTop (mkF mM 46 #[.val (.int p1), .val (.int p2), .val (.int p3), .val (.int p4), .val (.int p5), .val (.int p6), .val (.int z), .val (.int av), .val (.int bv), .val (.int kv), .val (.double (4787326403894837248 : UInt64)), .second, .val (.ref b1_), .unset] [])) (fun tT kK => ?_) ?_
  · show Steps pP.tables eE below (T2_.setTop (mkF mM 44 #[.val (.int p1), .val (.int p2), .val (.int p3), .val (.int p4), .val (.int p5), .val (.int p6), .val (.int z), .val (.int av), .val (.int bv), .val (.int kv), .val (.double (4787326403894837248 : UInt64)), .second, .unset, .unset] [(.ref b1_)])) tT
    refine XS.astore X2_.here hx rfl (Jvm.hb hby at_44) rfl rfl (l' := #[.val (.int p1), .val (.int p2), .val (.int p3), .val (.int p4), .val (.int p5), .val (.int p6), .val (.int z), .val (.int av), .val (.int bv), .val (.int kv), .val (.double (4787326403894837248 : UInt64)), .second, .val (.ref b1_), .unset]) rfl ?_
    show Steps pP.tables eE below (T2_.setTop (mkF mM 46 #[.val (.int p1), .val (.int p2), .val (.int p3), .val (.int p4), .val (.int p5), .val (.int p6), .val (.int z), .val (.int av), .val (.int bv), .val (.int kv), .val (.double (4787326403894837248 : UInt64)), .second, .val (.ref b1_), .unset] [])) tT
    exact kK
  have jp8_ : ∀ (c : Int32) (sf : Int32 → Int32) (bf : Int32 → Int32) (vf : Int32 → UInt64) (gf : Int32 → UInt64) (Tj8_ : State) (Lj8_ : List Loc) (hj8_ : Heap), (own_Inv z c sf bf vf gf) → Stand pP lL eE room_1 sS mM #[(.int p1), (.int p2), (.int p3), (.int p4), (.int p5), (.int p6)] below meth cC Tj8_ Lj8_ 5 21 → Tj8_.heap = hj8_ → Keep h0 hj8_ ([] : List Addr) → (Exa Z hj8_ b1_ "com/example/chains_to_rank/chainstorank/ranker/Scores") → (Fld Z hj8_ b1_ "com/example/chains_to_rank/chainstorank/ranker/Scores" "values" "[D" (.ref v_2_)) → (Fld Z hj8_ b1_ "com/example/chains_to_rank/chainstorank/ranker/Scores" "magnitudes" "[D" (.ref g_2_)) → (Fld Z hj8_ b1_ "com/example/chains_to_rank/chainstorank/ranker/Scores" "scored" "[I" (.ref s_2_)) → (Fld Z hj8_ b1_ "com/example/chains_to_rank/chainstorank/ranker/Scores" "isScored" "[Z" (.ref b_2_)) → (Fld Z hj8_ b1_ "com/example/chains_to_rank/chainstorank/ranker/Scores" "scoredCount" "I" (.int c)) → (own_TD Z hj8_ v_2_ z vf) → (own_TD Z hj8_ g_2_ z gf) → (own_T Z hj8_ s_2_ .int z sf) → (own_T Z hj8_ b_2_ .boolean z bf) → Fr n0 Lj8_ → own_Fin pP eE below (fun tT oO => ∃ vV lA, oO = .returned vV ∧ Q_rm0 Z p1 p2 p3 p4 p5 p6 h0 n0 vV tT.heap lA ∧ FrameEnd sS oO tT lA room_1.cells room_1.slots) (Tj8_.setTop (mkF mM 93 #[.val (.int p1), .val (.int p2), .val (.int p3), .val (.int p4), .val (.int p5), .val (.int p6), .val (.int z), .val (.int av), .val (.int bv), .val (.int kv), .val (.double (4787326403894837248 : UInt64)), .second, .val (.ref b1_), .unset] [])) := by
    intro c sf bf vf gf Tj8_ Lj8_ hj8_ hInv Xj8_ ej8_ Kj8_ fj8__0 fj8__1 fj8__2 fj8__3 fj8__4 fj8__5 fj8__6 fj8__7 fj8__8 fj8__9 Nj8_
    show own_Fin pP eE below _ (Tj8_.setTop (mkF mM 93 #[.val (.int p1), .val (.int p2), .val (.int p3), .val (.int p4), .val (.int p5), .val (.int p6), .val (.int z), .val (.int av), .val (.int bv), .val (.int kv), .val (.double (4787326403894837248 : UInt64)), .second, .val (.ref b1_), .unset] []))
    have jp9_ : ∀ (sf2 : Int32 → Int32) (Tj9_ : State) (Lj9_ : List Loc) (hj9_ : Heap), Stand pP lL eE room_1 sS mM #[(.int p1), (.int p2), (.int p3), (.int p4), (.int p5), (.int p6)] below meth cC Tj9_ Lj9_ 5 21 → Tj9_.heap = hj9_ → Keep h0 hj9_ ([] : List Addr) → (Exa Z hj9_ b1_ "com/example/chains_to_rank/chainstorank/ranker/Scores") → (Fld Z hj9_ b1_ "com/example/chains_to_rank/chainstorank/ranker/Scores" "values" "[D" (.ref v_2_)) → (Fld Z hj9_ b1_ "com/example/chains_to_rank/chainstorank/ranker/Scores" "magnitudes" "[D" (.ref g_2_)) → (Fld Z hj9_ b1_ "com/example/chains_to_rank/chainstorank/ranker/Scores" "scored" "[I" (.ref s_2_)) → (Fld Z hj9_ b1_ "com/example/chains_to_rank/chainstorank/ranker/Scores" "isScored" "[Z" (.ref b_2_)) → (Fld Z hj9_ b1_ "com/example/chains_to_rank/chainstorank/ranker/Scores" "scoredCount" "I" (.int (0 : Int32))) → (own_TD Z hj9_ v_2_ z (fun _ => (0 : UInt64))) → (own_TD Z hj9_ g_2_ z (fun _ => (0 : UInt64))) → (own_T Z hj9_ s_2_ .int z sf2) → (own_T Z hj9_ b_2_ .boolean z (fun _ => (0 : Int32))) → Fr n0 Lj9_ → own_Fin pP eE below (fun tT oO => ∃ vV lA, oO = .returned vV ∧ Q_rm0 Z p1 p2 p3 p4 p5 p6 h0 n0 vV tT.heap lA ∧ FrameEnd sS oO tT lA room_1.cells room_1.slots) (Tj9_.setTop (mkF mM 98 #[.val (.int p1), .val (.int p2), .val (.int p3), .val (.int p4), .val (.int p5), .val (.int p6), .val (.int z), .val (.int av), .val (.int bv), .val (.int kv), .val (.double (4787326403894837248 : UInt64)), .second, .val (.ref b1_), .unset] [])) := by
      intro sf2 Tj9_ Lj9_ hj9_  Xj9_ ej9_ Kj9_ fj9__0 fj9__1 fj9__2 fj9__3 fj9__4 fj9__5 fj9__6 fj9__7 fj9__8 fj9__9 Nj9_
      show own_Fin pP eE below _ (Tj9_.setTop (mkF mM 98 #[.val (.int p1), .val (.int p2), .val (.int p3), .val (.int p4), .val (.int p5), .val (.int p6), .val (.int z), .val (.int av), .val (.int bv), .val (.int kv), .val (.double (4787326403894837248 : UInt64)), .second, .val (.ref b1_), .unset] []))
      refine own_fin (b := Tj9_.setTop (mkF mM 105 #[.val (.int p1), .val (.int p2), .val (.int p3), .val (.int p4), .val (.int p5), .val (.int p6), .val (.int z), .val (.int av), .val (.int bv), .val (.int kv), .val (.double (4787326403894837248 : UInt64)), .second, .val (.ref b1_), .unset] [(.double (FP.i2d p6)), (.int av), (.ref b1_)])) (fun tT kK => ?_) ?_
      · show Steps pP.tables eE below (Tj9_.setTop (mkF mM 98 #[.val (.int p1), .val (.int p2), .val (.int p3), .val (.int p4), .val (.int p5), .val (.int p6), .val (.int z), .val (.int av), .val (.int bv), .val (.int kv), .val (.double (4787326403894837248 : UInt64)), .second, .val (.ref b1_), .unset] [])) tT
        refine XS.aload Xj9_.here hx rfl (Jvm.hb hby at_98) rfl rfl ?_
        show Steps pP.tables eE below (Tj9_.setTop (mkF mM 100 #[.val (.int p1), .val (.int p2), .val (.int p3), .val (.int p4), .val (.int p5), .val (.int p6), .val (.int z), .val (.int av), .val (.int bv), .val (.int kv), .val (.double (4787326403894837248 : UInt64)), .second, .val (.ref b1_), .unset] [(.ref b1_)])) tT
        refine XS.iload Xj9_.here hx rfl (Jvm.hb hby at_100) rfl ?_
        show Steps pP.tables eE below (Tj9_.setTop (mkF mM 102 #[.val (.int p1), .val (.int p2), .val (.int p3), .val (.int p4), .val (.int p5), .val (.int p6), .val (.int z), .val (.int av), .val (.int bv), .val (.int kv), .val (.double (4787326403894837248 : UInt64)), .second, .val (.ref b1_), .unset] [(.int av), (.ref b1_)])) tT
        refine XS.iload Xj9_.here hx rfl (Jvm.hb hby at_102) rfl ?_
        show Steps pP.tables eE below (Tj9_.setTop (mkF mM 104 #[.val (.int p1), .val (.int p2), .val (.int p3), .val (.int p4), .val (.int p5), .val (.int p6), .val (.int z), .val (.int av), .val (.int bv), .val (.int kv), .val (.double (4787326403894837248 : UInt64)), .second, .val (.ref b1_), .unset] [(.int p6), (.int av), (.ref b1_)])) tT
        refine XS.i2dS Xj9_.here hx rfl (Jvm.hb hby at_104) rfl rfl ?_
        show Steps pP.tables eE below (Tj9_.setTop (mkF mM 105 #[.val (.int p1), .val (.int p2), .val (.int p3), .val (.int p4), .val (.int p5), .val (.int p6), .val (.int z), .val (.int av), .val (.int bv), .val (.int kv), .val (.double (4787326403894837248 : UInt64)), .second, .val (.ref b1_), .unset] [(.double (FP.i2d p6)), (.int av), (.ref b1_)])) tT
        exact kK
      obtain ⟨cq10_, kq10_, q10_a, q10_b, q10_c⟩ := isOf hZ ej9_ fj9__0
      obtain ⟨_, _, ⟨T10_, L10_, k10_, n10_⟩, -, X10_, ⟨Lc10_, hQ10_, l10_, y10_, z10_⟩, st10_⟩ := Xj9_.virtualBack hx (y := (⟨"com/example/chains_to_rank/chainstorank/ranker/Scores", "add", "(ID)V"⟩ : MethodName)) (z := (⟨"com/example/chains_to_rank/chainstorank/ranker/Scores", "add", "(ID)V"⟩ : MethodName)) hown (mvT hZ (hw _ (List.mem_of_getElem? (i := 22) rfl))) (mvT hZ (hw _ (List.mem_of_getElem? (i := 23) rfl))) (notFace_of_selects (args := #[]) (mvT hZ (hw _ (List.mem_of_getElem? (i := 25) rfl)))) (mvT hZ (hw _ (List.mem_of_getElem? (i := 25) rfl))) (mvT hZ (hw _ (List.mem_of_getElem? (i := 24) rfl))) (by decide) (backOf (W := 0) (rm_add1 lL Z a0 hw [] b1_ v_2_ g_2_ s_2_ b_2_ z av (FP.i2d p6) (0 : Int32) (FP.i2d p6) (own_ab (FP.i2d p6)) (fun _ => (0 : UInt64)) (fun _ => (0 : UInt64)) sf2 (fun _ => (0 : Int32)) hj9_ n0 (Nat.le_trans Z0 Kj9_.1) fj9__0 fj9__1 fj9__2 fj9__3 fj9__4 fj9__5 fj9__6 fj9__7 fj9__8 fj9__9 ge_b1_ ge_v_2_ ge_g_2_ ge_s_2_ ge_b_2_ p2__5 p2__6 p2__7 p2__8 p2__9 p2__10 (Ne.symm ne3_) (Ne.symm ne4_) (Ne.symm ne5_) (Ne.symm ne6_) hai (i2d_fin p6).noNaN (own_add0 p6) (i2d_fin p6).noNaN (own_adda p6) (own_abn (i2d_fin p6).noNaN) (own_0in hzb) rfl) hZ (hw _ (List.mem_of_getElem? (i := 26) rfl)) (hw _ (List.mem_of_getElem? (i := 4) rfl)) (by decide) (by decide)) q10_a q10_c (g := (mkF mM 105 #[.val (.int p1), .val (.int p2), .val (.int p3), .val (.int p4), .val (.int p5), .val (.int p6), .val (.int z), .val (.int av), .val (.int bv), .val (.int kv), .val (.double (4787326403894837248 : UInt64)), .second, .val (.ref b1_), .unset] [(.double (FP.i2d p6)), (.int av), (.ref b1_)])) rfl (by rw [hml]; rfl) (Steps.refl _) (argsL := [(.int av), (.double (FP.i2d p6))]) (rest := []) (lenOf own_pd4 rfl) rfl (by show 2 * 0 + _ ≤ _; exact Nat.le_of_eq rfl) (Jvm.hb hby at_105) (fun _ _ => ⟨rfl, ej9_, (by decide : 5 + 0 ≤ _), (by decide : 21 + 0 ≤ _)⟩)
      dsimp only [Pt.U, Pt.locs, Pt.cells, Pt.slots] at X10_ l10_ y10_ z10_ st10_ hQ10_
      subst l10_ y10_ z10_
      obtain ⟨rfl, N10_q, p10__0, p10__1, p10__2, p10__3, p10__4, p10__5, p10__6, p10__7, p10__8, p10__9, p10__10⟩ := hQ10_
      have N10_ := Fr.app Nj9_ N10_q
      have fc11_ := fj9__0.keep p10__0
      have K10_ := Kj9_.trans p10__0 (allS (Or.inr sz_b1_) (allS (Or.inr sz_v_2_) (allS (Or.inr sz_g_2_) (allS (Or.inr sz_s_2_) (allS (Or.inr sz_b_2_) all0)))))
      refine own_fin (fun tT kK => st10_.trans kK) ?_
      show own_Fin pP eE below _ (T10_.setTop (mkF mM 108 #[.val (.int p1), .val (.int p2), .val (.int p3), .val (.int p4), .val (.int p5), .val (.int p6), .val (.int z), .val (.int av), .val (.int bv), .val (.int kv), .val (.double (4787326403894837248 : UInt64)), .second, .val (.ref b1_), .unset] []))
      refine own_fin (b := T10_.setTop (mkF mM 110 #[.val (.int p1), .val (.int p2), .val (.int p3), .val (.int p4), .val (.int p5), .val (.int p6), .val (.int z), .val (.int av), .val (.int bv), .val (.int kv), .val (.double (4787326403894837248 : UInt64)), .second, .val (.ref b1_), .unset] [(.ref b1_)])) (fun tT kK => ?_) ?_
      · show Steps pP.tables eE below (T10_.setTop (mkF mM 108 #[.val (.int p1), .val (.int p2), .val (.int p3), .val (.int p4), .val (.int p5), .val (.int p6), .val (.int z), .val (.int av), .val (.int bv), .val (.int kv), .val (.double (4787326403894837248 : UInt64)), .second, .val (.ref b1_), .unset] [])) tT
        refine XS.aload X10_.here hx rfl (Jvm.hb hby at_108) rfl rfl ?_
        show Steps pP.tables eE below (T10_.setTop (mkF mM 110 #[.val (.int p1), .val (.int p2), .val (.int p3), .val (.int p4), .val (.int p5), .val (.int p6), .val (.int z), .val (.int av), .val (.int bv), .val (.int kv), .val (.double (4787326403894837248 : UInt64)), .second, .val (.ref b1_), .unset] [(.ref b1_)])) tT
        exact kK
      obtain ⟨cq12_, kq12_, q12_a, q12_b, q12_c⟩ := isOf hZ rfl p10__1
      obtain ⟨_, _, ⟨T12_, L12_, k12_, n12_⟩, -, X12_, ⟨Lc12_, hQ12_, l12_, y12_, z12_⟩, st12_⟩ := X10_.virtualBack hx (y := (⟨"com/example/chains_to_rank/chainstorank/ranker/Scores", "scoredCount", "()I"⟩ : MethodName)) (z := (⟨"com/example/chains_to_rank/chainstorank/ranker/Scores", "scoredCount", "()I"⟩ : MethodName)) hown (mvT hZ (hw _ (List.mem_of_getElem? (i := 38) rfl))) (mvT hZ (hw _ (List.mem_of_getElem? (i := 39) rfl))) (notFace_of_selects (args := #[]) (mvT hZ (hw _ (List.mem_of_getElem? (i := 41) rfl)))) (mvT hZ (hw _ (List.mem_of_getElem? (i := 41) rfl))) (mvT hZ (hw _ (List.mem_of_getElem? (i := 40) rfl))) (by decide) (backOf (W := 0) (rm_cnt lL Z a0 hw [] b1_ ((0 : Int32) + (1 : Int32)) T10_.heap n0 (Nat.le_trans Z0 K10_.1) p10__6) hZ (hw _ (List.mem_of_getElem? (i := 42) rfl)) (hw _ (List.mem_of_getElem? (i := 4) rfl)) (by decide) (by decide)) q12_a q12_c (g := (mkF mM 110 #[.val (.int p1), .val (.int p2), .val (.int p3), .val (.int p4), .val (.int p5), .val (.int p6), .val (.int z), .val (.int av), .val (.int bv), .val (.int kv), .val (.double (4787326403894837248 : UInt64)), .second, .val (.ref b1_), .unset] [(.ref b1_)])) rfl (by rw [hml]; rfl) (Steps.refl _) (argsL := []) (rest := []) (lenOf own_pd5 rfl) rfl (by show 2 * 0 + _ ≤ _; exact Nat.le_of_eq rfl) (Jvm.hb hby at_110) (fun _ _ => ⟨rfl, rfl, (by decide : 5 + 0 ≤ _), (by decide : 21 + 0 ≤ _)⟩)
      dsimp only [Pt.U, Pt.locs, Pt.cells, Pt.slots] at X12_ l12_ y12_ z12_ st12_ hQ12_
      subst l12_ y12_ z12_
      obtain ⟨rfl, N12_q, p12__0⟩ := hQ12_
      have N12_ := Fr.app N10_ N12_q
      refine own_fin (fun tT kK => st12_.trans kK) ?_
      show own_Fin pP eE below _ (T12_.setTop (mkF mM 113 #[.val (.int p1), .val (.int p2), .val (.int p3), .val (.int p4), .val (.int p5), .val (.int p6), .val (.int z), .val (.int av), .val (.int bv), .val (.int kv), .val (.double (4787326403894837248 : UInt64)), .second, .val (.ref b1_), .unset] [(.int ((0 : Int32) + (1 : Int32)))]))
      refine own_fin (b := T12_.setTop (mkF mM 132 #[.val (.int p1), .val (.int p2), .val (.int p3), .val (.int p4), .val (.int p5), .val (.int p6), .val (.int z), .val (.int av), .val (.int bv), .val (.int kv), .val (.double (4787326403894837248 : UInt64)), .second, .val (.ref b1_), .val (.int (1 : Int32))] [(.int (0 : Int32)), (.ref b1_)])) (fun tT kK => ?_) ?_
      · show Steps pP.tables eE below (T12_.setTop (mkF mM 113 #[.val (.int p1), .val (.int p2), .val (.int p3), .val (.int p4), .val (.int p5), .val (.int p6), .val (.int z), .val (.int av), .val (.int bv), .val (.int kv), .val (.double (4787326403894837248 : UInt64)), .second, .val (.ref b1_), .unset] [(.int ((0 : Int32) + (1 : Int32)))])) tT
        refine XS.iconst X12_.here hx rfl (Jvm.hb hby at_113) ?_
        show Steps pP.tables eE below (T12_.setTop (mkF mM 114 #[.val (.int p1), .val (.int p2), .val (.int p3), .val (.int p4), .val (.int p5), .val (.int p6), .val (.int z), .val (.int av), .val (.int bv), .val (.int kv), .val (.double (4787326403894837248 : UInt64)), .second, .val (.ref b1_), .unset] [(.int (1 : Int32)), (.int ((0 : Int32) + (1 : Int32)))])) tT
        refine XS.icmpNo X12_.here hx rfl (Jvm.hb hby at_114) rfl (teq ((by decide) : ((0 : Int32) + (1 : Int32)) = (1 : Int32))).2 ?_
        show Steps pP.tables eE below (T12_.setTop (mkF mM 117 #[.val (.int p1), .val (.int p2), .val (.int p3), .val (.int p4), .val (.int p5), .val (.int p6), .val (.int z), .val (.int av), .val (.int bv), .val (.int kv), .val (.double (4787326403894837248 : UInt64)), .second, .val (.ref b1_), .unset] [])) tT
        refine XS.iconst X12_.here hx rfl (Jvm.hb hby at_117) ?_
        show Steps pP.tables eE below (T12_.setTop (mkF mM 118 #[.val (.int p1), .val (.int p2), .val (.int p3), .val (.int p4), .val (.int p5), .val (.int p6), .val (.int z), .val (.int av), .val (.int bv), .val (.int kv), .val (.double (4787326403894837248 : UInt64)), .second, .val (.ref b1_), .unset] [(.int (1 : Int32))])) tT
        refine XS.goto X12_.here hx rfl (pc0 := 118) (pc' := 122) rfl (Jvm.hb hby at_118) (by decide) (by decide) ?_
        show Steps pP.tables eE below (T12_.setTop (mkF mM 122 #[.val (.int p1), .val (.int p2), .val (.int p3), .val (.int p4), .val (.int p5), .val (.int p6), .val (.int z), .val (.int av), .val (.int bv), .val (.int kv), .val (.double (4787326403894837248 : UInt64)), .second, .val (.ref b1_), .unset] [(.int (1 : Int32))])) tT
        refine XS.istore X12_.here hx rfl (Jvm.hb hby at_122) rfl (l' := #[.val (.int p1), .val (.int p2), .val (.int p3), .val (.int p4), .val (.int p5), .val (.int p6), .val (.int z), .val (.int av), .val (.int bv), .val (.int kv), .val (.double (4787326403894837248 : UInt64)), .second, .val (.ref b1_), .val (.int (1 : Int32))]) rfl ?_
        show Steps pP.tables eE below (T12_.setTop (mkF mM 124 #[.val (.int p1), .val (.int p2), .val (.int p3), .val (.int p4), .val (.int p5), .val (.int p6), .val (.int z), .val (.int av), .val (.int bv), .val (.int kv), .val (.double (4787326403894837248 : UInt64)), .second, .val (.ref b1_), .val (.int (1 : Int32))] [])) tT
        refine XS.iload X12_.here hx rfl (Jvm.hb hby at_124) rfl ?_
        show Steps pP.tables eE below (T12_.setTop (mkF mM 126 #[.val (.int p1), .val (.int p2), .val (.int p3), .val (.int p4), .val (.int p5), .val (.int p6), .val (.int z), .val (.int av), .val (.int bv), .val (.int kv), .val (.double (4787326403894837248 : UInt64)), .second, .val (.ref b1_), .val (.int (1 : Int32))] [(.int (1 : Int32))])) tT
        refine XS.ifNo X12_.here hx rfl (Jvm.hb hby at_126) rfl ((if0 _ _).trans (feq ((by decide) : ¬ ((1 : Int32) = (0 : Int32)))).1) ?_
        show Steps pP.tables eE below (T12_.setTop (mkF mM 129 #[.val (.int p1), .val (.int p2), .val (.int p3), .val (.int p4), .val (.int p5), .val (.int p6), .val (.int z), .val (.int av), .val (.int bv), .val (.int kv), .val (.double (4787326403894837248 : UInt64)), .second, .val (.ref b1_), .val (.int (1 : Int32))] [])) tT
        refine XS.aload X12_.here hx rfl (Jvm.hb hby at_129) rfl rfl ?_
        show Steps pP.tables eE below (T12_.setTop (mkF mM 131 #[.val (.int p1), .val (.int p2), .val (.int p3), .val (.int p4), .val (.int p5), .val (.int p6), .val (.int z), .val (.int av), .val (.int bv), .val (.int kv), .val (.double (4787326403894837248 : UInt64)), .second, .val (.ref b1_), .val (.int (1 : Int32))] [(.ref b1_)])) tT
        refine XS.iconst X12_.here hx rfl (Jvm.hb hby at_131) ?_
        show Steps pP.tables eE below (T12_.setTop (mkF mM 132 #[.val (.int p1), .val (.int p2), .val (.int p3), .val (.int p4), .val (.int p5), .val (.int p6), .val (.int z), .val (.int av), .val (.int bv), .val (.int kv), .val (.double (4787326403894837248 : UInt64)), .second, .val (.ref b1_), .val (.int (1 : Int32))] [(.int (0 : Int32)), (.ref b1_)])) tT
        exact kK
      obtain ⟨cq13_, kq13_, q13_a, q13_b, q13_c⟩ := isOf hZ p12__0 p10__1
      obtain ⟨_, _, ⟨T13_, L13_, k13_, n13_⟩, -, X13_, ⟨Lc13_, hQ13_, l13_, y13_, z13_⟩, st13_⟩ := X12_.virtualBack hx (y := (⟨"com/example/chains_to_rank/chainstorank/ranker/Scores", "scored", "(I)I"⟩ : MethodName)) (z := (⟨"com/example/chains_to_rank/chainstorank/ranker/Scores", "scored", "(I)I"⟩ : MethodName)) hown (mvT hZ (hw _ (List.mem_of_getElem? (i := 43) rfl))) (mvT hZ (hw _ (List.mem_of_getElem? (i := 44) rfl))) (notFace_of_selects (args := #[]) (mvT hZ (hw _ (List.mem_of_getElem? (i := 46) rfl)))) (mvT hZ (hw _ (List.mem_of_getElem? (i := 46) rfl))) (mvT hZ (hw _ (List.mem_of_getElem? (i := 45) rfl))) (by decide) (backOf (W := 0) (rm_scored lL Z a0 hw [] b1_ (0 : Int32) s_2_ z (own_up sf2 (0 : Int32) av) T10_.heap n0 (Nat.le_trans Z0 K10_.1) p10__4 p10__9 (own_0in hzb)) hZ (hw _ (List.mem_of_getElem? (i := 47) rfl)) (hw _ (List.mem_of_getElem? (i := 4) rfl)) (by decide) (by decide)) q13_a q13_c (g := (mkF mM 132 #[.val (.int p1), .val (.int p2), .val (.int p3), .val (.int p4), .val (.int p5), .val (.int p6), .val (.int z), .val (.int av), .val (.int bv), .val (.int kv), .val (.double (4787326403894837248 : UInt64)), .second, .val (.ref b1_), .val (.int (1 : Int32))] [(.int (0 : Int32)), (.ref b1_)])) rfl (by rw [hml]; rfl) (Steps.refl _) (argsL := [(.int (0 : Int32))]) (rest := []) (lenOf own_pd6 rfl) rfl (by show 2 * 0 + _ ≤ _; exact Nat.le_of_eq rfl) (Jvm.hb hby at_132) (fun _ _ => ⟨rfl, p12__0, (by decide : 5 + 0 ≤ _), (by decide : 21 + 0 ≤ _)⟩)
      dsimp only [Pt.U, Pt.locs, Pt.cells, Pt.slots] at X13_ l13_ y13_ z13_ st13_ hQ13_
      subst l13_ y13_ z13_
      obtain ⟨rfl, N13_q, p13__0⟩ := hQ13_
      have N13_ := Fr.app N12_ N13_q
      refine own_fin (fun tT kK => st13_.trans kK) ?_
      show own_Fin pP eE below _ (T13_.setTop (mkF mM 135 #[.val (.int p1), .val (.int p2), .val (.int p3), .val (.int p4), .val (.int p5), .val (.int p6), .val (.int z), .val (.int av), .val (.int bv), .val (.int kv), .val (.double (4787326403894837248 : UInt64)), .second, .val (.ref b1_), .val (.int (1 : Int32))] [(.int ((own_up sf2 (0 : Int32) av) (0 : Int32)))]))
      refine own_fin (b := T13_.setTop (mkF mM 156 #[.val (.int p1), .val (.int p2), .val (.int p3), .val (.int p4), .val (.int p5), .val (.int p6), .val (.int z), .val (.int av), .val (.int bv), .val (.int kv), .val (.double (4787326403894837248 : UInt64)), .second, .val (.ref b1_), .val (.int (1 : Int32))] [(.int av), (.ref b1_)])) (fun tT kK => ?_) ?_
      · show Steps pP.tables eE below (T13_.setTop (mkF mM 135 #[.val (.int p1), .val (.int p2), .val (.int p3), .val (.int p4), .val (.int p5), .val (.int p6), .val (.int z), .val (.int av), .val (.int bv), .val (.int kv), .val (.double (4787326403894837248 : UInt64)), .second, .val (.ref b1_), .val (.int (1 : Int32))] [(.int ((own_up sf2 (0 : Int32) av) (0 : Int32)))])) tT
        refine XS.iload X13_.here hx rfl (Jvm.hb hby at_135) rfl ?_
        show Steps pP.tables eE below (T13_.setTop (mkF mM 137 #[.val (.int p1), .val (.int p2), .val (.int p3), .val (.int p4), .val (.int p5), .val (.int p6), .val (.int z), .val (.int av), .val (.int bv), .val (.int kv), .val (.double (4787326403894837248 : UInt64)), .second, .val (.ref b1_), .val (.int (1 : Int32))] [(.int av), (.int ((own_up sf2 (0 : Int32) av) (0 : Int32)))])) tT
        refine XS.icmpNo X13_.here hx rfl (Jvm.hb hby at_137) rfl (teq (own_hit _ _ _ : ((own_up sf2 (0 : Int32) av) (0 : Int32)) = av)).2 ?_
        show Steps pP.tables eE below (T13_.setTop (mkF mM 140 #[.val (.int p1), .val (.int p2), .val (.int p3), .val (.int p4), .val (.int p5), .val (.int p6), .val (.int z), .val (.int av), .val (.int bv), .val (.int kv), .val (.double (4787326403894837248 : UInt64)), .second, .val (.ref b1_), .val (.int (1 : Int32))] [])) tT
        refine XS.iconst X13_.here hx rfl (Jvm.hb hby at_140) ?_
        show Steps pP.tables eE below (T13_.setTop (mkF mM 141 #[.val (.int p1), .val (.int p2), .val (.int p3), .val (.int p4), .val (.int p5), .val (.int p6), .val (.int z), .val (.int av), .val (.int bv), .val (.int kv), .val (.double (4787326403894837248 : UInt64)), .second, .val (.ref b1_), .val (.int (1 : Int32))] [(.int (1 : Int32))])) tT
        refine XS.goto X13_.here hx rfl (pc0 := 141) (pc' := 145) rfl (Jvm.hb hby at_141) (by decide) (by decide) ?_
        show Steps pP.tables eE below (T13_.setTop (mkF mM 145 #[.val (.int p1), .val (.int p2), .val (.int p3), .val (.int p4), .val (.int p5), .val (.int p6), .val (.int z), .val (.int av), .val (.int bv), .val (.int kv), .val (.double (4787326403894837248 : UInt64)), .second, .val (.ref b1_), .val (.int (1 : Int32))] [(.int (1 : Int32))])) tT
        refine XS.istore X13_.here hx rfl (Jvm.hb hby at_145) rfl (l' := #[.val (.int p1), .val (.int p2), .val (.int p3), .val (.int p4), .val (.int p5), .val (.int p6), .val (.int z), .val (.int av), .val (.int bv), .val (.int kv), .val (.double (4787326403894837248 : UInt64)), .second, .val (.ref b1_), .val (.int (1 : Int32))]) rfl ?_
        show Steps pP.tables eE below (T13_.setTop (mkF mM 147 #[.val (.int p1), .val (.int p2), .val (.int p3), .val (.int p4), .val (.int p5), .val (.int p6), .val (.int z), .val (.int av), .val (.int bv), .val (.int kv), .val (.double (4787326403894837248 : UInt64)), .second, .val (.ref b1_), .val (.int (1 : Int32))] [])) tT
        refine XS.iload X13_.here hx rfl (Jvm.hb hby at_147) rfl ?_
        show Steps pP.tables eE below (T13_.setTop (mkF mM 149 #[.val (.int p1), .val (.int p2), .val (.int p3), .val (.int p4), .val (.int p5), .val (.int p6), .val (.int z), .val (.int av), .val (.int bv), .val (.int kv), .val (.double (4787326403894837248 : UInt64)), .second, .val (.ref b1_), .val (.int (1 : Int32))] [(.int (1 : Int32))])) tT
        refine XS.ifNo X13_.here hx rfl (Jvm.hb hby at_149) rfl ((if0 _ _).trans (feq ((by decide) : ¬ ((1 : Int32) = (0 : Int32)))).1) ?_
        show Steps pP.tables eE below (T13_.setTop (mkF mM 152 #[.val (.int p1), .val (.int p2), .val (.int p3), .val (.int p4), .val (.int p5), .val (.int p6), .val (.int z), .val (.int av), .val (.int bv), .val (.int kv), .val (.double (4787326403894837248 : UInt64)), .second, .val (.ref b1_), .val (.int (1 : Int32))] [])) tT
        refine XS.aload X13_.here hx rfl (Jvm.hb hby at_152) rfl rfl ?_
        show Steps pP.tables eE below (T13_.setTop (mkF mM 154 #[.val (.int p1), .val (.int p2), .val (.int p3), .val (.int p4), .val (.int p5), .val (.int p6), .val (.int z), .val (.int av), .val (.int bv), .val (.int kv), .val (.double (4787326403894837248 : UInt64)), .second, .val (.ref b1_), .val (.int (1 : Int32))] [(.ref b1_)])) tT
        refine XS.iload X13_.here hx rfl (Jvm.hb hby at_154) rfl ?_
        show Steps pP.tables eE below (T13_.setTop (mkF mM 156 #[.val (.int p1), .val (.int p2), .val (.int p3), .val (.int p4), .val (.int p5), .val (.int p6), .val (.int z), .val (.int av), .val (.int bv), .val (.int kv), .val (.double (4787326403894837248 : UInt64)), .second, .val (.ref b1_), .val (.int (1 : Int32))] [(.int av), (.ref b1_)])) tT
        exact kK
      obtain ⟨cq14_, kq14_, q14_a, q14_b, q14_c⟩ := isOf hZ p13__0 p10__1
      obtain ⟨_, _, ⟨T14_, L14_, k14_, n14_⟩, -, X14_, ⟨Lc14_, hQ14_, l14_, y14_, z14_⟩, st14_⟩ := X13_.virtualBack hx (y := (⟨"com/example/chains_to_rank/chainstorank/ranker/Scores", "value", "(I)D"⟩ : MethodName)) (z := (⟨"com/example/chains_to_rank/chainstorank/ranker/Scores", "value", "(I)D"⟩ : MethodName)) hown (mvT hZ (hw _ (List.mem_of_getElem? (i := 48) rfl))) (mvT hZ (hw _ (List.mem_of_getElem? (i := 49) rfl))) (notFace_of_selects (args := #[]) (mvT hZ (hw _ (List.mem_of_getElem? (i := 51) rfl)))) (mvT hZ (hw _ (List.mem_of_getElem? (i := 51) rfl))) (mvT hZ (hw _ (List.mem_of_getElem? (i := 50) rfl))) (by decide) (backOf (W := 0) (rm_value lL Z a0 hw [] b1_ av v_2_ z (own_upD (fun _ => (0 : UInt64)) av (FP.i2d p6)) T10_.heap n0 (Nat.le_trans Z0 K10_.1) p10__2 p10__7 hai) hZ (hw _ (List.mem_of_getElem? (i := 52) rfl)) (hw _ (List.mem_of_getElem? (i := 4) rfl)) (by decide) (by decide)) q14_a q14_c (g := (mkF mM 156 #[.val (.int p1), .val (.int p2), .val (.int p3), .val (.int p4), .val (.int p5), .val (.int p6), .val (.int z), .val (.int av), .val (.int bv), .val (.int kv), .val (.double (4787326403894837248 : UInt64)), .second, .val (.ref b1_), .val (.int (1 : Int32))] [(.int av), (.ref b1_)])) rfl (by rw [hml]; rfl) (Steps.refl _) (argsL := [(.int av)]) (rest := []) (lenOf own_pd7 rfl) rfl (by show 2 * 0 + _ ≤ _; exact Nat.le_of_eq rfl) (Jvm.hb hby at_156) (fun _ _ => ⟨rfl, p13__0, (by decide : 5 + 0 ≤ _), (by decide : 21 + 0 ≤ _)⟩)
      dsimp only [Pt.U, Pt.locs, Pt.cells, Pt.slots] at X14_ l14_ y14_ z14_ st14_ hQ14_
      subst l14_ y14_ z14_
      obtain ⟨rfl, N14_q, p14__0⟩ := hQ14_
      have N14_ := Fr.app N13_ N14_q
      refine own_fin (fun tT kK => st14_.trans kK) ?_
      show own_Fin pP eE below _ (T14_.setTop (mkF mM 159 #[.val (.int p1), .val (.int p2), .val (.int p3), .val (.int p4), .val (.int p5), .val (.int p6), .val (.int z), .val (.int av), .val (.int bv), .val (.int kv), .val (.double (4787326403894837248 : UInt64)), .second, .val (.ref b1_), .val (.int (1 : Int32))] [(.double ((own_upD (fun _ => (0 : UInt64)) av (FP.i2d p6)) av))]))
      refine own_fin (b := T14_.setTop (mkF mM 182 #[.val (.int p1), .val (.int p2), .val (.int p3), .val (.int p4), .val (.int p5), .val (.int p6), .val (.int z), .val (.int av), .val (.int bv), .val (.int kv), .val (.double (4787326403894837248 : UInt64)), .second, .val (.ref b1_), .val (.int (1 : Int32))] [(.int av), (.ref b1_)])) (fun tT kK => ?_) ?_
      · show Steps pP.tables eE below (T14_.setTop (mkF mM 159 #[.val (.int p1), .val (.int p2), .val (.int p3), .val (.int p4), .val (.int p5), .val (.int p6), .val (.int z), .val (.int av), .val (.int bv), .val (.int kv), .val (.double (4787326403894837248 : UInt64)), .second, .val (.ref b1_), .val (.int (1 : Int32))] [(.double ((own_upD (fun _ => (0 : UInt64)) av (FP.i2d p6)) av))])) tT
        refine XS.iload X14_.here hx rfl (Jvm.hb hby at_159) rfl ?_
        show Steps pP.tables eE below (T14_.setTop (mkF mM 161 #[.val (.int p1), .val (.int p2), .val (.int p3), .val (.int p4), .val (.int p5), .val (.int p6), .val (.int z), .val (.int av), .val (.int bv), .val (.int kv), .val (.double (4787326403894837248 : UInt64)), .second, .val (.ref b1_), .val (.int (1 : Int32))] [(.int p6), (.double ((own_upD (fun _ => (0 : UInt64)) av (FP.i2d p6)) av))])) tT
        refine XS.i2dS X14_.here hx rfl (Jvm.hb hby at_161) rfl rfl ?_
        show Steps pP.tables eE below (T14_.setTop (mkF mM 162 #[.val (.int p1), .val (.int p2), .val (.int p3), .val (.int p4), .val (.int p5), .val (.int p6), .val (.int z), .val (.int av), .val (.int bv), .val (.int kv), .val (.double (4787326403894837248 : UInt64)), .second, .val (.ref b1_), .val (.int (1 : Int32))] [(.double (FP.i2d p6)), (.double ((own_upD (fun _ => (0 : UInt64)) av (FP.i2d p6)) av))])) tT
        refine XS.dcmpS X14_.here hx rfl (Jvm.hb hby at_162) rfl (v := (0 : Int32)) (dcmpV_eq (own_hitD _ _ _) (by rw [own_hitD]; exact (i2d_fin p6).noNaN) _) ?_
        show Steps pP.tables eE below (T14_.setTop (mkF mM 163 #[.val (.int p1), .val (.int p2), .val (.int p3), .val (.int p4), .val (.int p5), .val (.int p6), .val (.int z), .val (.int av), .val (.int bv), .val (.int kv), .val (.double (4787326403894837248 : UInt64)), .second, .val (.ref b1_), .val (.int (1 : Int32))] [(.int (0 : Int32))])) tT
        refine XS.ifNo X14_.here hx rfl (Jvm.hb hby at_163) rfl ((if0 _ _).trans (teq ((by decide) : (0 : Int32) = (0 : Int32))).2) ?_
        show Steps pP.tables eE below (T14_.setTop (mkF mM 166 #[.val (.int p1), .val (.int p2), .val (.int p3), .val (.int p4), .val (.int p5), .val (.int p6), .val (.int z), .val (.int av), .val (.int bv), .val (.int kv), .val (.double (4787326403894837248 : UInt64)), .second, .val (.ref b1_), .val (.int (1 : Int32))] [])) tT
        refine XS.iconst X14_.here hx rfl (Jvm.hb hby at_166) ?_
        show Steps pP.tables eE below (T14_.setTop (mkF mM 167 #[.val (.int p1), .val (.int p2), .val (.int p3), .val (.int p4), .val (.int p5), .val (.int p6), .val (.int z), .val (.int av), .val (.int bv), .val (.int kv), .val (.double (4787326403894837248 : UInt64)), .second, .val (.ref b1_), .val (.int (1 : Int32))] [(.int (1 : Int32))])) tT
        refine XS.goto X14_.here hx rfl (pc0 := 167) (pc' := 171) rfl (Jvm.hb hby at_167) (by decide) (by decide) ?_
        show Steps pP.tables eE below (T14_.setTop (mkF mM 171 #[.val (.int p1), .val (.int p2), .val (.int p3), .val (.int p4), .val (.int p5), .val (.int p6), .val (.int z), .val (.int av), .val (.int bv), .val (.int kv), .val (.double (4787326403894837248 : UInt64)), .second, .val (.ref b1_), .val (.int (1 : Int32))] [(.int (1 : Int32))])) tT
        refine XS.istore X14_.here hx rfl (Jvm.hb hby at_171) rfl (l' := #[.val (.int p1), .val (.int p2), .val (.int p3), .val (.int p4), .val (.int p5), .val (.int p6), .val (.int z), .val (.int av), .val (.int bv), .val (.int kv), .val (.double (4787326403894837248 : UInt64)), .second, .val (.ref b1_), .val (.int (1 : Int32))]) rfl ?_
        show Steps pP.tables eE below (T14_.setTop (mkF mM 173 #[.val (.int p1), .val (.int p2), .val (.int p3), .val (.int p4), .val (.int p5), .val (.int p6), .val (.int z), .val (.int av), .val (.int bv), .val (.int kv), .val (.double (4787326403894837248 : UInt64)), .second, .val (.ref b1_), .val (.int (1 : Int32))] [])) tT
        refine XS.iload X14_.here hx rfl (Jvm.hb hby at_173) rfl ?_
        show Steps pP.tables eE below (T14_.setTop (mkF mM 175 #[.val (.int p1), .val (.int p2), .val (.int p3), .val (.int p4), .val (.int p5), .val (.int p6), .val (.int z), .val (.int av), .val (.int bv), .val (.int kv), .val (.double (4787326403894837248 : UInt64)), .second, .val (.ref b1_), .val (.int (1 : Int32))] [(.int (1 : Int32))])) tT
        refine XS.ifNo X14_.here hx rfl (Jvm.hb hby at_175) rfl ((if0 _ _).trans (feq ((by decide) : ¬ ((1 : Int32) = (0 : Int32)))).1) ?_
        show Steps pP.tables eE below (T14_.setTop (mkF mM 178 #[.val (.int p1), .val (.int p2), .val (.int p3), .val (.int p4), .val (.int p5), .val (.int p6), .val (.int z), .val (.int av), .val (.int bv), .val (.int kv), .val (.double (4787326403894837248 : UInt64)), .second, .val (.ref b1_), .val (.int (1 : Int32))] [])) tT
        refine XS.aload X14_.here hx rfl (Jvm.hb hby at_178) rfl rfl ?_
        show Steps pP.tables eE below (T14_.setTop (mkF mM 180 #[.val (.int p1), .val (.int p2), .val (.int p3), .val (.int p4), .val (.int p5), .val (.int p6), .val (.int z), .val (.int av), .val (.int bv), .val (.int kv), .val (.double (4787326403894837248 : UInt64)), .second, .val (.ref b1_), .val (.int (1 : Int32))] [(.ref b1_)])) tT
        refine XS.iload X14_.here hx rfl (Jvm.hb hby at_180) rfl ?_
        show Steps pP.tables eE below (T14_.setTop (mkF mM 182 #[.val (.int p1), .val (.int p2), .val (.int p3), .val (.int p4), .val (.int p5), .val (.int p6), .val (.int z), .val (.int av), .val (.int bv), .val (.int kv), .val (.double (4787326403894837248 : UInt64)), .second, .val (.ref b1_), .val (.int (1 : Int32))] [(.int av), (.ref b1_)])) tT
        exact kK
      obtain ⟨cq15_, kq15_, q15_a, q15_b, q15_c⟩ := isOf hZ p14__0 p10__1
      obtain ⟨_, _, ⟨T15_, L15_, k15_, n15_⟩, -, X15_, ⟨Lc15_, hQ15_, l15_, y15_, z15_⟩, st15_⟩ := X14_.virtualBack hx (y := (⟨"com/example/chains_to_rank/chainstorank/ranker/Scores", "isSameAsUnscored", "(I)Z"⟩ : MethodName)) (z := (⟨"com/example/chains_to_rank/chainstorank/ranker/Scores", "isSameAsUnscored", "(I)Z"⟩ : MethodName)) hown (mvT hZ (hw _ (List.mem_of_getElem? (i := 53) rfl))) (mvT hZ (hw _ (List.mem_of_getElem? (i := 54) rfl))) (notFace_of_selects (args := #[]) (mvT hZ (hw _ (List.mem_of_getElem? (i := 56) rfl)))) (mvT hZ (hw _ (List.mem_of_getElem? (i := 56) rfl))) (mvT hZ (hw _ (List.mem_of_getElem? (i := 55) rfl))) (by decide) (backOf (W := 0) (rm_unsc lL Z a0 hw [] b1_ av v_2_ g_2_ z p6 (own_upD (fun _ => (0 : UInt64)) av (FP.i2d p6)) (own_upD (fun _ => (0 : UInt64)) av (own_ab (FP.i2d p6))) T10_.heap n0 (Nat.le_trans Z0 K10_.1) p10__2 p10__3 p10__7 p10__8 hai (own_hitD _ _ _) (own_hitD _ _ _)) hZ (hw _ (List.mem_of_getElem? (i := 57) rfl)) (hw _ (List.mem_of_getElem? (i := 4) rfl)) (by decide) (by decide)) q15_a q15_c (g := (mkF mM 182 #[.val (.int p1), .val (.int p2), .val (.int p3), .val (.int p4), .val (.int p5), .val (.int p6), .val (.int z), .val (.int av), .val (.int bv), .val (.int kv), .val (.double (4787326403894837248 : UInt64)), .second, .val (.ref b1_), .val (.int (1 : Int32))] [(.int av), (.ref b1_)])) rfl (by rw [hml]; rfl) (Steps.refl _) (argsL := [(.int av)]) (rest := []) (lenOf own_pd8 rfl) rfl (by show 2 * 0 + _ ≤ _; exact Nat.le_of_eq rfl) (Jvm.hb hby at_182) (fun _ _ => ⟨rfl, p14__0, (by decide : 5 + 0 ≤ _), (by decide : 21 + 0 ≤ _)⟩)
      dsimp only [Pt.U, Pt.locs, Pt.cells, Pt.slots] at X15_ l15_ y15_ z15_ st15_ hQ15_
      subst l15_ y15_ z15_
      obtain ⟨rfl, N15_q, p15__0⟩ := hQ15_
      have N15_ := Fr.app N14_ N15_q
      refine own_fin (fun tT kK => st15_.trans kK) ?_
      show own_Fin pP eE below _ (T15_.setTop (mkF mM 185 #[.val (.int p1), .val (.int p2), .val (.int p3), .val (.int p4), .val (.int p5), .val (.int p6), .val (.int z), .val (.int av), .val (.int bv), .val (.int kv), .val (.double (4787326403894837248 : UInt64)), .second, .val (.ref b1_), .val (.int (1 : Int32))] [(.int (if p6 = (0 : Int32) then (1 : Int32) else (0 : Int32)))]))
      refine own_fin (b := T15_.setTop (mkF mM 187 #[.val (.int p1), .val (.int p2), .val (.int p3), .val (.int p4), .val (.int p5), .val (.int p6), .val (.int z), .val (.int av), .val (.int bv), .val (.int kv), .val (.double (4787326403894837248 : UInt64)), .second, .val (.ref b1_), .val (.int (1 : Int32))] [(.int p6), (.int (if p6 = (0 : Int32) then (1 : Int32) else (0 : Int32)))])) (fun tT kK => ?_) ?_
      · show Steps pP.tables eE below (T15_.setTop (mkF mM 185 #[.val (.int p1), .val (.int p2), .val (.int p3), .val (.int p4), .val (.int p5), .val (.int p6), .val (.int z), .val (.int av), .val (.int bv), .val (.int kv), .val (.double (4787326403894837248 : UInt64)), .second, .val (.ref b1_), .val (.int (1 : Int32))] [(.int (if p6 = (0 : Int32) then (1 : Int32) else (0 : Int32)))])) tT
        refine XS.iload X15_.here hx rfl (Jvm.hb hby at_185) rfl ?_
        show Steps pP.tables eE below (T15_.setTop (mkF mM 187 #[.val (.int p1), .val (.int p2), .val (.int p3), .val (.int p4), .val (.int p5), .val (.int p6), .val (.int z), .val (.int av), .val (.int bv), .val (.int kv), .val (.double (4787326403894837248 : UInt64)), .second, .val (.ref b1_), .val (.int (1 : Int32))] [(.int p6), (.int (if p6 = (0 : Int32) then (1 : Int32) else (0 : Int32)))])) tT
        exact kK
      by_cases hc187_16_ : p6 = (0 : Int32)
      · refine own_fin (b := T15_.setTop (mkF mM 214 #[.val (.int p1), .val (.int p2), .val (.int p3), .val (.int p4), .val (.int p5), .val (.int p6), .val (.int z), .val (.int av), .val (.int bv), .val (.int kv), .val (.double (4787326403894837248 : UInt64)), .second, .val (.ref b1_), .val (.int (1 : Int32))] [(.int bv), (.ref b1_)])) (fun tT kK => ?_) ?_
        · show Steps pP.tables eE below (T15_.setTop (mkF mM 187 #[.val (.int p1), .val (.int p2), .val (.int p3), .val (.int p4), .val (.int p5), .val (.int p6), .val (.int z), .val (.int av), .val (.int bv), .val (.int kv), .val (.double (4787326403894837248 : UInt64)), .second, .val (.ref b1_), .val (.int (1 : Int32))] [(.int p6), (.int (if p6 = (0 : Int32) then (1 : Int32) else (0 : Int32)))])) tT
          refine XS.ifNo X15_.here hx rfl (Jvm.hb hby at_187) rfl ((if0 _ _).trans (teq (hc187_16_ : p6 = (0 : Int32))).2) ?_
          show Steps pP.tables eE below (T15_.setTop (mkF mM 190 #[.val (.int p1), .val (.int p2), .val (.int p3), .val (.int p4), .val (.int p5), .val (.int p6), .val (.int z), .val (.int av), .val (.int bv), .val (.int kv), .val (.double (4787326403894837248 : UInt64)), .second, .val (.ref b1_), .val (.int (1 : Int32))] [(.int (if p6 = (0 : Int32) then (1 : Int32) else (0 : Int32)))])) tT
          refine XS.iconst X15_.here hx rfl (Jvm.hb hby at_190) ?_
          show Steps pP.tables eE below (T15_.setTop (mkF mM 191 #[.val (.int p1), .val (.int p2), .val (.int p3), .val (.int p4), .val (.int p5), .val (.int p6), .val (.int z), .val (.int av), .val (.int bv), .val (.int kv), .val (.double (4787326403894837248 : UInt64)), .second, .val (.ref b1_), .val (.int (1 : Int32))] [(.int (1 : Int32)), (.int (if p6 = (0 : Int32) then (1 : Int32) else (0 : Int32)))])) tT
          refine XS.goto X15_.here hx rfl (pc0 := 191) (pc' := 195) rfl (Jvm.hb hby at_191) (by decide) (by decide) ?_
          show Steps pP.tables eE below (T15_.setTop (mkF mM 195 #[.val (.int p1), .val (.int p2), .val (.int p3), .val (.int p4), .val (.int p5), .val (.int p6), .val (.int z), .val (.int av), .val (.int bv), .val (.int kv), .val (.double (4787326403894837248 : UInt64)), .second, .val (.ref b1_), .val (.int (1 : Int32))] [(.int (1 : Int32)), (.int (if p6 = (0 : Int32) then (1 : Int32) else (0 : Int32)))])) tT
          refine XS.icmpNo X15_.here hx rfl (Jvm.hb hby at_195) rfl (teq (if_pos hc187_16_ : (if p6 = (0 : Int32) then (1 : Int32) else (0 : Int32)) = (1 : Int32))).2 ?_
          show Steps pP.tables eE below (T15_.setTop (mkF mM 198 #[.val (.int p1), .val (.int p2), .val (.int p3), .val (.int p4), .val (.int p5), .val (.int p6), .val (.int z), .val (.int av), .val (.int bv), .val (.int kv), .val (.double (4787326403894837248 : UInt64)), .second, .val (.ref b1_), .val (.int (1 : Int32))] [])) tT
          refine XS.iconst X15_.here hx rfl (Jvm.hb hby at_198) ?_
          show Steps pP.tables eE below (T15_.setTop (mkF mM 199 #[.val (.int p1), .val (.int p2), .val (.int p3), .val (.int p4), .val (.int p5), .val (.int p6), .val (.int z), .val (.int av), .val (.int bv), .val (.int kv), .val (.double (4787326403894837248 : UInt64)), .second, .val (.ref b1_), .val (.int (1 : Int32))] [(.int (1 : Int32))])) tT
          refine XS.goto X15_.here hx rfl (pc0 := 199) (pc' := 203) rfl (Jvm.hb hby at_199) (by decide) (by decide) ?_
          show Steps pP.tables eE below (T15_.setTop (mkF mM 203 #[.val (.int p1), .val (.int p2), .val (.int p3), .val (.int p4), .val (.int p5), .val (.int p6), .val (.int z), .val (.int av), .val (.int bv), .val (.int kv), .val (.double (4787326403894837248 : UInt64)), .second, .val (.ref b1_), .val (.int (1 : Int32))] [(.int (1 : Int32))])) tT
          refine XS.istore X15_.here hx rfl (Jvm.hb hby at_203) rfl (l' := #[.val (.int p1), .val (.int p2), .val (.int p3), .val (.int p4), .val (.int p5), .val (.int p6), .val (.int z), .val (.int av), .val (.int bv), .val (.int kv), .val (.double (4787326403894837248 : UInt64)), .second, .val (.ref b1_), .val (.int (1 : Int32))]) rfl ?_
          show Steps pP.tables eE below (T15_.setTop (mkF mM 205 #[.val (.int p1), .val (.int p2), .val (.int p3), .val (.int p4), .val (.int p5), .val (.int p6), .val (.int z), .val (.int av), .val (.int bv), .val (.int kv), .val (.double (4787326403894837248 : UInt64)), .second, .val (.ref b1_), .val (.int (1 : Int32))] [])) tT
          refine XS.iload X15_.here hx rfl (Jvm.hb hby at_205) rfl ?_
          show Steps pP.tables eE below (T15_.setTop (mkF mM 207 #[.val (.int p1), .val (.int p2), .val (.int p3), .val (.int p4), .val (.int p5), .val (.int p6), .val (.int z), .val (.int av), .val (.int bv), .val (.int kv), .val (.double (4787326403894837248 : UInt64)), .second, .val (.ref b1_), .val (.int (1 : Int32))] [(.int (1 : Int32))])) tT
          refine XS.ifNo X15_.here hx rfl (Jvm.hb hby at_207) rfl ((if0 _ _).trans (feq ((by decide) : ¬ ((1 : Int32) = (0 : Int32)))).1) ?_
          show Steps pP.tables eE below (T15_.setTop (mkF mM 210 #[.val (.int p1), .val (.int p2), .val (.int p3), .val (.int p4), .val (.int p5), .val (.int p6), .val (.int z), .val (.int av), .val (.int bv), .val (.int kv), .val (.double (4787326403894837248 : UInt64)), .second, .val (.ref b1_), .val (.int (1 : Int32))] [])) tT
          refine XS.aload X15_.here hx rfl (Jvm.hb hby at_210) rfl rfl ?_
          show Steps pP.tables eE below (T15_.setTop (mkF mM 212 #[.val (.int p1), .val (.int p2), .val (.int p3), .val (.int p4), .val (.int p5), .val (.int p6), .val (.int z), .val (.int av), .val (.int bv), .val (.int kv), .val (.double (4787326403894837248 : UInt64)), .second, .val (.ref b1_), .val (.int (1 : Int32))] [(.ref b1_)])) tT
          refine XS.iload X15_.here hx rfl (Jvm.hb hby at_212) rfl ?_
          show Steps pP.tables eE below (T15_.setTop (mkF mM 214 #[.val (.int p1), .val (.int p2), .val (.int p3), .val (.int p4), .val (.int p5), .val (.int p6), .val (.int z), .val (.int av), .val (.int bv), .val (.int kv), .val (.double (4787326403894837248 : UInt64)), .second, .val (.ref b1_), .val (.int (1 : Int32))] [(.int bv), (.ref b1_)])) tT
          exact kK
        obtain ⟨cq17_, kq17_, q17_a, q17_b, q17_c⟩ := isOf hZ p15__0 p10__1
        obtain ⟨_, _, ⟨T17_, L17_, k17_, n17_⟩, -, X17_, ⟨Lc17_, hQ17_, l17_, y17_, z17_⟩, st17_⟩ := X15_.virtualBack hx (y := (⟨"com/example/chains_to_rank/chainstorank/ranker/Scores", "isScored", "(I)Z"⟩ : MethodName)) (z := (⟨"com/example/chains_to_rank/chainstorank/ranker/Scores", "isScored", "(I)Z"⟩ : MethodName)) hown (mvT hZ (hw _ (List.mem_of_getElem? (i := 65) rfl))) (mvT hZ (hw _ (List.mem_of_getElem? (i := 66) rfl))) (notFace_of_selects (args := #[]) (mvT hZ (hw _ (List.mem_of_getElem? (i := 68) rfl)))) (mvT hZ (hw _ (List.mem_of_getElem? (i := 68) rfl))) (mvT hZ (hw _ (List.mem_of_getElem? (i := 67) rfl))) (by decide) (backOf (W := 0) (rm_isScored lL Z a0 hw [] b1_ bv b_2_ z (own_up (fun _ => (0 : Int32)) av (1 : Int32)) T10_.heap n0 (Nat.le_trans Z0 K10_.1) p10__5 p10__10 hbi) hZ (hw _ (List.mem_of_getElem? (i := 69) rfl)) (hw _ (List.mem_of_getElem? (i := 4) rfl)) (by decide) (by decide)) q17_a q17_c (g := (mkF mM 214 #[.val (.int p1), .val (.int p2), .val (.int p3), .val (.int p4), .val (.int p5), .val (.int p6), .val (.int z), .val (.int av), .val (.int bv), .val (.int kv), .val (.double (4787326403894837248 : UInt64)), .second, .val (.ref b1_), .val (.int (1 : Int32))] [(.int bv), (.ref b1_)])) rfl (by rw [hml]; rfl) (Steps.refl _) (argsL := [(.int bv)]) (rest := []) (lenOf own_pd8 rfl) rfl (by show 2 * 0 + _ ≤ _; exact Nat.le_of_eq rfl) (Jvm.hb hby at_214) (fun _ _ => ⟨rfl, p15__0, (by decide : 5 + 0 ≤ _), (by decide : 21 + 0 ≤ _)⟩)
        dsimp only [Pt.U, Pt.locs, Pt.cells, Pt.slots] at X17_ l17_ y17_ z17_ st17_ hQ17_
        subst l17_ y17_ z17_
        obtain ⟨rfl, N17_q, p17__0⟩ := hQ17_
        have N17_ := Fr.app N15_ N17_q
        refine own_fin (fun tT kK => st17_.trans kK) ?_
        show own_Fin pP eE below _ (T17_.setTop (mkF mM 217 #[.val (.int p1), .val (.int p2), .val (.int p3), .val (.int p4), .val (.int p5), .val (.int p6), .val (.int z), .val (.int av), .val (.int bv), .val (.int kv), .val (.double (4787326403894837248 : UInt64)), .second, .val (.ref b1_), .val (.int (1 : Int32))] [(.int (nar .boolean ((own_up (fun _ => (0 : Int32)) av (1 : Int32)) bv)))]))
        refine own_fin (b := T17_.setTop (mkF mM 221 #[.val (.int p1), .val (.int p2), .val (.int p3), .val (.int p4), .val (.int p5), .val (.int p6), .val (.int z), .val (.int av), .val (.int bv), .val (.int kv), .val (.double (4787326403894837248 : UInt64)), .second, .val (.ref b1_), .val (.int (1 : Int32))] [(.int av), (.int bv), (.int (nar .boolean ((own_up (fun _ => (0 : Int32)) av (1 : Int32)) bv)))])) (fun tT kK => ?_) ?_
        · show Steps pP.tables eE below (T17_.setTop (mkF mM 217 #[.val (.int p1), .val (.int p2), .val (.int p3), .val (.int p4), .val (.int p5), .val (.int p6), .val (.int z), .val (.int av), .val (.int bv), .val (.int kv), .val (.double (4787326403894837248 : UInt64)), .second, .val (.ref b1_), .val (.int (1 : Int32))] [(.int (nar .boolean ((own_up (fun _ => (0 : Int32)) av (1 : Int32)) bv)))])) tT
          refine XS.iload X17_.here hx rfl (Jvm.hb hby at_217) rfl ?_
          show Steps pP.tables eE below (T17_.setTop (mkF mM 219 #[.val (.int p1), .val (.int p2), .val (.int p3), .val (.int p4), .val (.int p5), .val (.int p6), .val (.int z), .val (.int av), .val (.int bv), .val (.int kv), .val (.double (4787326403894837248 : UInt64)), .second, .val (.ref b1_), .val (.int (1 : Int32))] [(.int bv), (.int (nar .boolean ((own_up (fun _ => (0 : Int32)) av (1 : Int32)) bv)))])) tT
          refine XS.iload X17_.here hx rfl (Jvm.hb hby at_219) rfl ?_
          show Steps pP.tables eE below (T17_.setTop (mkF mM 221 #[.val (.int p1), .val (.int p2), .val (.int p3), .val (.int p4), .val (.int p5), .val (.int p6), .val (.int z), .val (.int av), .val (.int bv), .val (.int kv), .val (.double (4787326403894837248 : UInt64)), .second, .val (.ref b1_), .val (.int (1 : Int32))] [(.int av), (.int bv), (.int (nar .boolean ((own_up (fun _ => (0 : Int32)) av (1 : Int32)) bv)))])) tT
          exact kK
        by_cases hc221_18_ : bv = av
        · refine own_fin (b := T17_.setTop (mkF mM 272 #[.val (.int p1), .val (.int p2), .val (.int p3), .val (.int p4), .val (.int p5), .val (.int p6), .val (.int z), .val (.int av), .val (.int bv), .val (.int kv), .val (.double (4787326403894837248 : UInt64)), .second, .val (.ref b1_), .val (.int (1 : Int32))] [(.int (1 : Int32))])) (fun tT kK => ?_) ?_
          · show Steps pP.tables eE below (T17_.setTop (mkF mM 221 #[.val (.int p1), .val (.int p2), .val (.int p3), .val (.int p4), .val (.int p5), .val (.int p6), .val (.int z), .val (.int av), .val (.int bv), .val (.int kv), .val (.double (4787326403894837248 : UInt64)), .second, .val (.ref b1_), .val (.int (1 : Int32))] [(.int av), (.int bv), (.int (nar .boolean ((own_up (fun _ => (0 : Int32)) av (1 : Int32)) bv)))])) tT
            refine XS.icmpNo X17_.here hx rfl (Jvm.hb hby at_221) rfl (teq (hc221_18_ : bv = av)).2 ?_
            show Steps pP.tables eE below (T17_.setTop (mkF mM 224 #[.val (.int p1), .val (.int p2), .val (.int p3), .val (.int p4), .val (.int p5), .val (.int p6), .val (.int z), .val (.int av), .val (.int bv), .val (.int kv), .val (.double (4787326403894837248 : UInt64)), .second, .val (.ref b1_), .val (.int (1 : Int32))] [(.int (nar .boolean ((own_up (fun _ => (0 : Int32)) av (1 : Int32)) bv)))])) tT
            refine XS.iconst X17_.here hx rfl (Jvm.hb hby at_224) ?_
            show Steps pP.tables eE below (T17_.setTop (mkF mM 225 #[.val (.int p1), .val (.int p2), .val (.int p3), .val (.int p4), .val (.int p5), .val (.int p6), .val (.int z), .val (.int av), .val (.int bv), .val (.int kv), .val (.double (4787326403894837248 : UInt64)), .second, .val (.ref b1_), .val (.int (1 : Int32))] [(.int (1 : Int32)), (.int (nar .boolean ((own_up (fun _ => (0 : Int32)) av (1 : Int32)) bv)))])) tT
            refine XS.goto X17_.here hx rfl (pc0 := 225) (pc' := 229) rfl (Jvm.hb hby at_225) (by decide) (by decide) ?_
            show Steps pP.tables eE below (T17_.setTop (mkF mM 229 #[.val (.int p1), .val (.int p2), .val (.int p3), .val (.int p4), .val (.int p5), .val (.int p6), .val (.int z), .val (.int av), .val (.int bv), .val (.int kv), .val (.double (4787326403894837248 : UInt64)), .second, .val (.ref b1_), .val (.int (1 : Int32))] [(.int (1 : Int32)), (.int (nar .boolean ((own_up (fun _ => (0 : Int32)) av (1 : Int32)) bv)))])) tT
            refine XS.icmpNo X17_.here hx rfl (Jvm.hb hby at_229) rfl (teq ((by rw [hc221_18_, own_hit]; rfl) : (nar .boolean ((own_up (fun _ => (0 : Int32)) av (1 : Int32)) bv)) = (1 : Int32))).2 ?_
            show Steps pP.tables eE below (T17_.setTop (mkF mM 232 #[.val (.int p1), .val (.int p2), .val (.int p3), .val (.int p4), .val (.int p5), .val (.int p6), .val (.int z), .val (.int av), .val (.int bv), .val (.int kv), .val (.double (4787326403894837248 : UInt64)), .second, .val (.ref b1_), .val (.int (1 : Int32))] [])) tT
            refine XS.iconst X17_.here hx rfl (Jvm.hb hby at_232) ?_
            show Steps pP.tables eE below (T17_.setTop (mkF mM 233 #[.val (.int p1), .val (.int p2), .val (.int p3), .val (.int p4), .val (.int p5), .val (.int p6), .val (.int z), .val (.int av), .val (.int bv), .val (.int kv), .val (.double (4787326403894837248 : UInt64)), .second, .val (.ref b1_), .val (.int (1 : Int32))] [(.int (1 : Int32))])) tT
            refine XS.goto X17_.here hx rfl (pc0 := 233) (pc' := 237) rfl (Jvm.hb hby at_233) (by decide) (by decide) ?_
            show Steps pP.tables eE below (T17_.setTop (mkF mM 237 #[.val (.int p1), .val (.int p2), .val (.int p3), .val (.int p4), .val (.int p5), .val (.int p6), .val (.int z), .val (.int av), .val (.int bv), .val (.int kv), .val (.double (4787326403894837248 : UInt64)), .second, .val (.ref b1_), .val (.int (1 : Int32))] [(.int (1 : Int32))])) tT
            refine XS.istore X17_.here hx rfl (Jvm.hb hby at_237) rfl (l' := #[.val (.int p1), .val (.int p2), .val (.int p3), .val (.int p4), .val (.int p5), .val (.int p6), .val (.int z), .val (.int av), .val (.int bv), .val (.int kv), .val (.double (4787326403894837248 : UInt64)), .second, .val (.ref b1_), .val (.int (1 : Int32))]) rfl ?_
            show Steps pP.tables eE below (T17_.setTop (mkF mM 239 #[.val (.int p1), .val (.int p2), .val (.int p3), .val (.int p4), .val (.int p5), .val (.int p6), .val (.int z), .val (.int av), .val (.int bv), .val (.int kv), .val (.double (4787326403894837248 : UInt64)), .second, .val (.ref b1_), .val (.int (1 : Int32))] [])) tT
            refine XS.iload X17_.here hx rfl (Jvm.hb hby at_239) rfl ?_
            show Steps pP.tables eE below (T17_.setTop (mkF mM 241 #[.val (.int p1), .val (.int p2), .val (.int p3), .val (.int p4), .val (.int p5), .val (.int p6), .val (.int z), .val (.int av), .val (.int bv), .val (.int kv), .val (.double (4787326403894837248 : UInt64)), .second, .val (.ref b1_), .val (.int (1 : Int32))] [(.int (1 : Int32))])) tT
            refine XS.ifNo X17_.here hx rfl (Jvm.hb hby at_241) rfl ((if0 _ _).trans (feq ((by decide) : ¬ ((1 : Int32) = (0 : Int32)))).1) ?_
            show Steps pP.tables eE below (T17_.setTop (mkF mM 244 #[.val (.int p1), .val (.int p2), .val (.int p3), .val (.int p4), .val (.int p5), .val (.int p6), .val (.int z), .val (.int av), .val (.int bv), .val (.int kv), .val (.double (4787326403894837248 : UInt64)), .second, .val (.ref b1_), .val (.int (1 : Int32))] [])) tT
            refine XS.iload X17_.here hx rfl (Jvm.hb hby at_244) rfl ?_
            show Steps pP.tables eE below (T17_.setTop (mkF mM 246 #[.val (.int p1), .val (.int p2), .val (.int p3), .val (.int p4), .val (.int p5), .val (.int p6), .val (.int z), .val (.int av), .val (.int bv), .val (.int kv), .val (.double (4787326403894837248 : UInt64)), .second, .val (.ref b1_), .val (.int (1 : Int32))] [(.int bv)])) tT
            refine XS.iload X17_.here hx rfl (Jvm.hb hby at_246) rfl ?_
            show Steps pP.tables eE below (T17_.setTop (mkF mM 248 #[.val (.int p1), .val (.int p2), .val (.int p3), .val (.int p4), .val (.int p5), .val (.int p6), .val (.int z), .val (.int av), .val (.int bv), .val (.int kv), .val (.double (4787326403894837248 : UInt64)), .second, .val (.ref b1_), .val (.int (1 : Int32))] [(.int av), (.int bv)])) tT
            refine XS.icmpYes X17_.here hx rfl (pc0 := 248) (pc' := 263) rfl (Jvm.hb hby at_248) rfl (teq (hc221_18_ : bv = av)).1 (by decide) (by decide) ?_
            show Steps pP.tables eE below (T17_.setTop (mkF mM 263 #[.val (.int p1), .val (.int p2), .val (.int p3), .val (.int p4), .val (.int p5), .val (.int p6), .val (.int z), .val (.int av), .val (.int bv), .val (.int kv), .val (.double (4787326403894837248 : UInt64)), .second, .val (.ref b1_), .val (.int (1 : Int32))] [])) tT
            refine XS.iconst X17_.here hx rfl (Jvm.hb hby at_263) ?_
            show Steps pP.tables eE below (T17_.setTop (mkF mM 264 #[.val (.int p1), .val (.int p2), .val (.int p3), .val (.int p4), .val (.int p5), .val (.int p6), .val (.int z), .val (.int av), .val (.int bv), .val (.int kv), .val (.double (4787326403894837248 : UInt64)), .second, .val (.ref b1_), .val (.int (1 : Int32))] [(.int (1 : Int32))])) tT
            refine XS.goto X17_.here hx rfl (pc0 := 264) (pc' := 268) rfl (Jvm.hb hby at_264) (by decide) (by decide) ?_
            show Steps pP.tables eE below (T17_.setTop (mkF mM 268 #[.val (.int p1), .val (.int p2), .val (.int p3), .val (.int p4), .val (.int p5), .val (.int p6), .val (.int z), .val (.int av), .val (.int bv), .val (.int kv), .val (.double (4787326403894837248 : UInt64)), .second, .val (.ref b1_), .val (.int (1 : Int32))] [(.int (1 : Int32))])) tT
            refine XS.istore X17_.here hx rfl (Jvm.hb hby at_268) rfl (l' := #[.val (.int p1), .val (.int p2), .val (.int p3), .val (.int p4), .val (.int p5), .val (.int p6), .val (.int z), .val (.int av), .val (.int bv), .val (.int kv), .val (.double (4787326403894837248 : UInt64)), .second, .val (.ref b1_), .val (.int (1 : Int32))]) rfl ?_
            show Steps pP.tables eE below (T17_.setTop (mkF mM 270 #[.val (.int p1), .val (.int p2), .val (.int p3), .val (.int p4), .val (.int p5), .val (.int p6), .val (.int z), .val (.int av), .val (.int bv), .val (.int kv), .val (.double (4787326403894837248 : UInt64)), .second, .val (.ref b1_), .val (.int (1 : Int32))] [])) tT
            refine XS.iload X17_.here hx rfl (Jvm.hb hby at_270) rfl ?_
            show Steps pP.tables eE below (T17_.setTop (mkF mM 272 #[.val (.int p1), .val (.int p2), .val (.int p3), .val (.int p4), .val (.int p5), .val (.int p6), .val (.int z), .val (.int av), .val (.int bv), .val (.int kv), .val (.double (4787326403894837248 : UInt64)), .second, .val (.ref b1_), .val (.int (1 : Int32))] [(.int (1 : Int32))])) tT
            exact kK
          obtain ⟨fs, hr, hrun, hended, hW, hsame⟩ := X17_.leave (v := some (.int (1 : Int32))) (fun h => by rw [Bd.returns] at h; cases h)
          refine ⟨_, _, ?_, hrun, hended, _, _, rfl, ?_, ⟨_, rfl⟩, hW, hsame.mono (by decide) (by decide)⟩
          · show Steps pP.tables eE below (T17_.setTop (mkF mM 272 #[.val (.int p1), .val (.int p2), .val (.int p3), .val (.int p4), .val (.int p5), .val (.int p6), .val (.int z), .val (.int av), .val (.int bv), .val (.int kv), .val (.double (4787326403894837248 : UInt64)), .second, .val (.ref b1_), .val (.int (1 : Int32))] [(.int (1 : Int32))])) _
            exact retN X17_ hx (t := .boolean) Bd.returns (by simp) (Jvm.hb hby at_272) hr
          · show Q_rm0 Z p1 p2 p3 p4 p5 p6 h0 n0 _ T17_.heap _
            rw [p17__0]
            exact ⟨rfl, N17_⟩
        · refine own_fin (b := T17_.setTop (mkF mM 255 #[.val (.int p1), .val (.int p2), .val (.int p3), .val (.int p4), .val (.int p5), .val (.int p6), .val (.int z), .val (.int av), .val (.int bv), .val (.int kv), .val (.double (4787326403894837248 : UInt64)), .second, .val (.ref b1_), .val (.int (1 : Int32))] [(.int bv), (.ref b1_)])) (fun tT kK => ?_) ?_
          · show Steps pP.tables eE below (T17_.setTop (mkF mM 221 #[.val (.int p1), .val (.int p2), .val (.int p3), .val (.int p4), .val (.int p5), .val (.int p6), .val (.int z), .val (.int av), .val (.int bv), .val (.int kv), .val (.double (4787326403894837248 : UInt64)), .second, .val (.ref b1_), .val (.int (1 : Int32))] [(.int av), (.int bv), (.int (nar .boolean ((own_up (fun _ => (0 : Int32)) av (1 : Int32)) bv)))])) tT
            refine XS.icmpYes X17_.here hx rfl (pc0 := 221) (pc' := 228) rfl (Jvm.hb hby at_221) rfl (feq (hc221_18_ : ¬ (bv = av))).2 (by decide) (by decide) ?_
            show Steps pP.tables eE below (T17_.setTop (mkF mM 228 #[.val (.int p1), .val (.int p2), .val (.int p3), .val (.int p4), .val (.int p5), .val (.int p6), .val (.int z), .val (.int av), .val (.int bv), .val (.int kv), .val (.double (4787326403894837248 : UInt64)), .second, .val (.ref b1_), .val (.int (1 : Int32))] [(.int (nar .boolean ((own_up (fun _ => (0 : Int32)) av (1 : Int32)) bv)))])) tT
            refine XS.iconst X17_.here hx rfl (Jvm.hb hby at_228) ?_
            show Steps pP.tables eE below (T17_.setTop (mkF mM 229 #[.val (.int p1), .val (.int p2), .val (.int p3), .val (.int p4), .val (.int p5), .val (.int p6), .val (.int z), .val (.int av), .val (.int bv), .val (.int kv), .val (.double (4787326403894837248 : UInt64)), .second, .val (.ref b1_), .val (.int (1 : Int32))] [(.int (0 : Int32)), (.int (nar .boolean ((own_up (fun _ => (0 : Int32)) av (1 : Int32)) bv)))])) tT
            refine XS.icmpNo X17_.here hx rfl (Jvm.hb hby at_229) rfl (teq ((by rw [own_miss (Ne.symm hc221_18_)]; rfl) : (nar .boolean ((own_up (fun _ => (0 : Int32)) av (1 : Int32)) bv)) = (0 : Int32))).2 ?_
            show Steps pP.tables eE below (T17_.setTop (mkF mM 232 #[.val (.int p1), .val (.int p2), .val (.int p3), .val (.int p4), .val (.int p5), .val (.int p6), .val (.int z), .val (.int av), .val (.int bv), .val (.int kv), .val (.double (4787326403894837248 : UInt64)), .second, .val (.ref b1_), .val (.int (1 : Int32))] [])) tT
            refine XS.iconst X17_.here hx rfl (Jvm.hb hby at_232) ?_
            show Steps pP.tables eE below (T17_.setTop (mkF mM 233 #[.val (.int p1), .val (.int p2), .val (.int p3), .val (.int p4), .val (.int p5), .val (.int p6), .val (.int z), .val (.int av), .val (.int bv), .val (.int kv), .val (.double (4787326403894837248 : UInt64)), .second, .val (.ref b1_), .val (.int (1 : Int32))] [(.int (1 : Int32))])) tT
            refine XS.goto X17_.here hx rfl (pc0 := 233) (pc' := 237) rfl (Jvm.hb hby at_233) (by decide) (by decide) ?_
            show Steps pP.tables eE below (T17_.setTop (mkF mM 237 #[.val (.int p1), .val (.int p2), .val (.int p3), .val (.int p4), .val (.int p5), .val (.int p6), .val (.int z), .val (.int av), .val (.int bv), .val (.int kv), .val (.double (4787326403894837248 : UInt64)), .second, .val (.ref b1_), .val (.int (1 : Int32))] [(.int (1 : Int32))])) tT
            refine XS.istore X17_.here hx rfl (Jvm.hb hby at_237) rfl (l' := #[.val (.int p1), .val (.int p2), .val (.int p3), .val (.int p4), .val (.int p5), .val (.int p6), .val (.int z), .val (.int av), .val (.int bv), .val (.int kv), .val (.double (4787326403894837248 : UInt64)), .second, .val (.ref b1_), .val (.int (1 : Int32))]) rfl ?_
            show Steps pP.tables eE below (T17_.setTop (mkF mM 239 #[.val (.int p1), .val (.int p2), .val (.int p3), .val (.int p4), .val (.int p5), .val (.int p6), .val (.int z), .val (.int av), .val (.int bv), .val (.int kv), .val (.double (4787326403894837248 : UInt64)), .second, .val (.ref b1_), .val (.int (1 : Int32))] [])) tT
            refine XS.iload X17_.here hx rfl (Jvm.hb hby at_239) rfl ?_
            show Steps pP.tables eE below (T17_.setTop (mkF mM 241 #[.val (.int p1), .val (.int p2), .val (.int p3), .val (.int p4), .val (.int p5), .val (.int p6), .val (.int z), .val (.int av), .val (.int bv), .val (.int kv), .val (.double (4787326403894837248 : UInt64)), .second, .val (.ref b1_), .val (.int (1 : Int32))] [(.int (1 : Int32))])) tT
            refine XS.ifNo X17_.here hx rfl (Jvm.hb hby at_241) rfl ((if0 _ _).trans (feq ((by decide) : ¬ ((1 : Int32) = (0 : Int32)))).1) ?_
            show Steps pP.tables eE below (T17_.setTop (mkF mM 244 #[.val (.int p1), .val (.int p2), .val (.int p3), .val (.int p4), .val (.int p5), .val (.int p6), .val (.int z), .val (.int av), .val (.int bv), .val (.int kv), .val (.double (4787326403894837248 : UInt64)), .second, .val (.ref b1_), .val (.int (1 : Int32))] [])) tT
            refine XS.iload X17_.here hx rfl (Jvm.hb hby at_244) rfl ?_
            show Steps pP.tables eE below (T17_.setTop (mkF mM 246 #[.val (.int p1), .val (.int p2), .val (.int p3), .val (.int p4), .val (.int p5), .val (.int p6), .val (.int z), .val (.int av), .val (.int bv), .val (.int kv), .val (.double (4787326403894837248 : UInt64)), .second, .val (.ref b1_), .val (.int (1 : Int32))] [(.int bv)])) tT
            refine XS.iload X17_.here hx rfl (Jvm.hb hby at_246) rfl ?_
            show Steps pP.tables eE below (T17_.setTop (mkF mM 248 #[.val (.int p1), .val (.int p2), .val (.int p3), .val (.int p4), .val (.int p5), .val (.int p6), .val (.int z), .val (.int av), .val (.int bv), .val (.int kv), .val (.double (4787326403894837248 : UInt64)), .second, .val (.ref b1_), .val (.int (1 : Int32))] [(.int av), (.int bv)])) tT
            refine XS.icmpNo X17_.here hx rfl (Jvm.hb hby at_248) rfl (feq (hc221_18_ : ¬ (bv = av))).1 ?_
            show Steps pP.tables eE below (T17_.setTop (mkF mM 251 #[.val (.int p1), .val (.int p2), .val (.int p3), .val (.int p4), .val (.int p5), .val (.int p6), .val (.int z), .val (.int av), .val (.int bv), .val (.int kv), .val (.double (4787326403894837248 : UInt64)), .second, .val (.ref b1_), .val (.int (1 : Int32))] [])) tT
            refine XS.aload X17_.here hx rfl (Jvm.hb hby at_251) rfl rfl ?_
            show Steps pP.tables eE below (T17_.setTop (mkF mM 253 #[.val (.int p1), .val (.int p2), .val (.int p3), .val (.int p4), .val (.int p5), .val (.int p6), .val (.int z), .val (.int av), .val (.int bv), .val (.int kv), .val (.double (4787326403894837248 : UInt64)), .second, .val (.ref b1_), .val (.int (1 : Int32))] [(.ref b1_)])) tT
            refine XS.iload X17_.here hx rfl (Jvm.hb hby at_253) rfl ?_
            show Steps pP.tables eE below (T17_.setTop (mkF mM 255 #[.val (.int p1), .val (.int p2), .val (.int p3), .val (.int p4), .val (.int p5), .val (.int p6), .val (.int z), .val (.int av), .val (.int bv), .val (.int kv), .val (.double (4787326403894837248 : UInt64)), .second, .val (.ref b1_), .val (.int (1 : Int32))] [(.int bv), (.ref b1_)])) tT
            exact kK
          obtain ⟨cq19_, kq19_, q19_a, q19_b, q19_c⟩ := isOf hZ p17__0 p10__1
          obtain ⟨_, _, ⟨T19_, L19_, k19_, n19_⟩, -, X19_, ⟨Lc19_, hQ19_, l19_, y19_, z19_⟩, st19_⟩ := X17_.virtualBack hx (y := (⟨"com/example/chains_to_rank/chainstorank/ranker/Scores", "value", "(I)D"⟩ : MethodName)) (z := (⟨"com/example/chains_to_rank/chainstorank/ranker/Scores", "value", "(I)D"⟩ : MethodName)) hown (mvT hZ (hw _ (List.mem_of_getElem? (i := 48) rfl))) (mvT hZ (hw _ (List.mem_of_getElem? (i := 49) rfl))) (notFace_of_selects (args := #[]) (mvT hZ (hw _ (List.mem_of_getElem? (i := 51) rfl)))) (mvT hZ (hw _ (List.mem_of_getElem? (i := 51) rfl))) (mvT hZ (hw _ (List.mem_of_getElem? (i := 50) rfl))) (by decide) (backOf (W := 0) (rm_value lL Z a0 hw [] b1_ bv v_2_ z (own_upD (fun _ => (0 : UInt64)) av (FP.i2d p6)) T10_.heap n0 (Nat.le_trans Z0 K10_.1) p10__2 p10__7 hbi) hZ (hw _ (List.mem_of_getElem? (i := 52) rfl)) (hw _ (List.mem_of_getElem? (i := 4) rfl)) (by decide) (by decide)) q19_a q19_c (g := (mkF mM 255 #[.val (.int p1), .val (.int p2), .val (.int p3), .val (.int p4), .val (.int p5), .val (.int p6), .val (.int z), .val (.int av), .val (.int bv), .val (.int kv), .val (.double (4787326403894837248 : UInt64)), .second, .val (.ref b1_), .val (.int (1 : Int32))] [(.int bv), (.ref b1_)])) rfl (by rw [hml]; rfl) (Steps.refl _) (argsL := [(.int bv)]) (rest := []) (lenOf own_pd7 rfl) rfl (by show 2 * 0 + _ ≤ _; exact Nat.le_of_eq rfl) (Jvm.hb hby at_255) (fun _ _ => ⟨rfl, p17__0, (by decide : 5 + 0 ≤ _), (by decide : 21 + 0 ≤ _)⟩)
          dsimp only [Pt.U, Pt.locs, Pt.cells, Pt.slots] at X19_ l19_ y19_ z19_ st19_ hQ19_
          subst l19_ y19_ z19_
          obtain ⟨rfl, N19_q, p19__0⟩ := hQ19_
          have N19_ := Fr.app N17_ N19_q
          refine own_fin (fun tT kK => st19_.trans kK) ?_
          show own_Fin pP eE below _ (T19_.setTop (mkF mM 258 #[.val (.int p1), .val (.int p2), .val (.int p3), .val (.int p4), .val (.int p5), .val (.int p6), .val (.int z), .val (.int av), .val (.int bv), .val (.int kv), .val (.double (4787326403894837248 : UInt64)), .second, .val (.ref b1_), .val (.int (1 : Int32))] [(.double ((own_upD (fun _ => (0 : UInt64)) av (FP.i2d p6)) bv))]))
          refine own_fin (b := T19_.setTop (mkF mM 272 #[.val (.int p1), .val (.int p2), .val (.int p3), .val (.int p4), .val (.int p5), .val (.int p6), .val (.int z), .val (.int av), .val (.int bv), .val (.int kv), .val (.double (4787326403894837248 : UInt64)), .second, .val (.ref b1_), .val (.int (1 : Int32))] [(.int (1 : Int32))])) (fun tT kK => ?_) ?_
          · show Steps pP.tables eE below (T19_.setTop (mkF mM 258 #[.val (.int p1), .val (.int p2), .val (.int p3), .val (.int p4), .val (.int p5), .val (.int p6), .val (.int z), .val (.int av), .val (.int bv), .val (.int kv), .val (.double (4787326403894837248 : UInt64)), .second, .val (.ref b1_), .val (.int (1 : Int32))] [(.double ((own_upD (fun _ => (0 : UInt64)) av (FP.i2d p6)) bv))])) tT
            refine XS.dconst0 X19_.here hx rfl (Jvm.hb hby at_258) (v := (0 : UInt64)) rfl ?_
            show Steps pP.tables eE below (T19_.setTop (mkF mM 259 #[.val (.int p1), .val (.int p2), .val (.int p3), .val (.int p4), .val (.int p5), .val (.int p6), .val (.int z), .val (.int av), .val (.int bv), .val (.int kv), .val (.double (4787326403894837248 : UInt64)), .second, .val (.ref b1_), .val (.int (1 : Int32))] [(.double (0 : UInt64)), (.double ((own_upD (fun _ => (0 : UInt64)) av (FP.i2d p6)) bv))])) tT
            refine XS.dcmpS X19_.here hx rfl (Jvm.hb hby at_259) rfl (v := (0 : Int32)) (dcmpV_eq (own_missD (Ne.symm hc221_18_)) (by rw [own_missD (Ne.symm hc221_18_)]; exact own_zf.noNaN) _) ?_
            show Steps pP.tables eE below (T19_.setTop (mkF mM 260 #[.val (.int p1), .val (.int p2), .val (.int p3), .val (.int p4), .val (.int p5), .val (.int p6), .val (.int z), .val (.int av), .val (.int bv), .val (.int kv), .val (.double (4787326403894837248 : UInt64)), .second, .val (.ref b1_), .val (.int (1 : Int32))] [(.int (0 : Int32))])) tT
            refine XS.ifNo X19_.here hx rfl (Jvm.hb hby at_260) rfl ((if0 _ _).trans (teq ((by decide) : (0 : Int32) = (0 : Int32))).2) ?_
            show Steps pP.tables eE below (T19_.setTop (mkF mM 263 #[.val (.int p1), .val (.int p2), .val (.int p3), .val (.int p4), .val (.int p5), .val (.int p6), .val (.int z), .val (.int av), .val (.int bv), .val (.int kv), .val (.double (4787326403894837248 : UInt64)), .second, .val (.ref b1_), .val (.int (1 : Int32))] [])) tT
            refine XS.iconst X19_.here hx rfl (Jvm.hb hby at_263) ?_
            show Steps pP.tables eE below (T19_.setTop (mkF mM 264 #[.val (.int p1), .val (.int p2), .val (.int p3), .val (.int p4), .val (.int p5), .val (.int p6), .val (.int z), .val (.int av), .val (.int bv), .val (.int kv), .val (.double (4787326403894837248 : UInt64)), .second, .val (.ref b1_), .val (.int (1 : Int32))] [(.int (1 : Int32))])) tT
            refine XS.goto X19_.here hx rfl (pc0 := 264) (pc' := 268) rfl (Jvm.hb hby at_264) (by decide) (by decide) ?_
            show Steps pP.tables eE below (T19_.setTop (mkF mM 268 #[.val (.int p1), .val (.int p2), .val (.int p3), .val (.int p4), .val (.int p5), .val (.int p6), .val (.int z), .val (.int av), .val (.int bv), .val (.int kv), .val (.double (4787326403894837248 : UInt64)), .second, .val (.ref b1_), .val (.int (1 : Int32))] [(.int (1 : Int32))])) tT
            refine XS.istore X19_.here hx rfl (Jvm.hb hby at_268) rfl (l' := #[.val (.int p1), .val (.int p2), .val (.int p3), .val (.int p4), .val (.int p5), .val (.int p6), .val (.int z), .val (.int av), .val (.int bv), .val (.int kv), .val (.double (4787326403894837248 : UInt64)), .second, .val (.ref b1_), .val (.int (1 : Int32))]) rfl ?_
            show Steps pP.tables eE below (T19_.setTop (mkF mM 270 #[.val (.int p1), .val (.int p2), .val (.int p3), .val (.int p4), .val (.int p5), .val (.int p6), .val (.int z), .val (.int av), .val (.int bv), .val (.int kv), .val (.double (4787326403894837248 : UInt64)), .second, .val (.ref b1_), .val (.int (1 : Int32))] [])) tT
            refine XS.iload X19_.here hx rfl (Jvm.hb hby at_270) rfl ?_
            show Steps pP.tables eE below (T19_.setTop (mkF mM 272 #[.val (.int p1), .val (.int p2), .val (.int p3), .val (.int p4), .val (.int p5), .val (.int p6), .val (.int z), .val (.int av), .val (.int bv), .val (.int kv), .val (.double (4787326403894837248 : UInt64)), .second, .val (.ref b1_), .val (.int (1 : Int32))] [(.int (1 : Int32))])) tT
            exact kK
          obtain ⟨fs, hr, hrun, hended, hW, hsame⟩ := X19_.leave (v := some (.int (1 : Int32))) (fun h => by rw [Bd.returns] at h; cases h)
          refine ⟨_, _, ?_, hrun, hended, _, _, rfl, ?_, ⟨_, rfl⟩, hW, hsame.mono (by decide) (by decide)⟩
          · show Steps pP.tables eE below (T19_.setTop (mkF mM 272 #[.val (.int p1), .val (.int p2), .val (.int p3), .val (.int p4), .val (.int p5), .val (.int p6), .val (.int z), .val (.int av), .val (.int bv), .val (.int kv), .val (.double (4787326403894837248 : UInt64)), .second, .val (.ref b1_), .val (.int (1 : Int32))] [(.int (1 : Int32))])) _
            exact retN X19_ hx (t := .boolean) Bd.returns (by simp) (Jvm.hb hby at_272) hr
          · show Q_rm0 Z p1 p2 p3 p4 p5 p6 h0 n0 _ T19_.heap _
            rw [p19__0]
            exact ⟨rfl, N19_⟩
      · refine own_fin (b := T15_.setTop (mkF mM 214 #[.val (.int p1), .val (.int p2), .val (.int p3), .val (.int p4), .val (.int p5), .val (.int p6), .val (.int z), .val (.int av), .val (.int bv), .val (.int kv), .val (.double (4787326403894837248 : UInt64)), .second, .val (.ref b1_), .val (.int (1 : Int32))] [(.int bv), (.ref b1_)])) (fun tT kK => ?_) ?_
        · show Steps pP.tables eE below (T15_.setTop (mkF mM 187 #[.val (.int p1), .val (.int p2), .val (.int p3), .val (.int p4), .val (.int p5), .val (.int p6), .val (.int z), .val (.int av), .val (.int bv), .val (.int kv), .val (.double (4787326403894837248 : UInt64)), .second, .val (.ref b1_), .val (.int (1 : Int32))] [(.int p6), (.int (if p6 = (0 : Int32) then (1 : Int32) else (0 : Int32)))])) tT
          refine XS.ifYes X15_.here hx rfl (pc0 := 187) (pc' := 194) rfl (Jvm.hb hby at_187) rfl ((if0 _ _).trans (feq (hc187_16_ : ¬ (p6 = (0 : Int32)))).2) (by decide) (by decide) ?_
          show Steps pP.tables eE below (T15_.setTop (mkF mM 194 #[.val (.int p1), .val (.int p2), .val (.int p3), .val (.int p4), .val (.int p5), .val (.int p6), .val (.int z), .val (.int av), .val (.int bv), .val (.int kv), .val (.double (4787326403894837248 : UInt64)), .second, .val (.ref b1_), .val (.int (1 : Int32))] [(.int (if p6 = (0 : Int32) then (1 : Int32) else (0 : Int32)))])) tT
          refine XS.iconst X15_.here hx rfl (Jvm.hb hby at_194) ?_
          show Steps pP.tables eE below (T15_.setTop (mkF mM 195 #[.val (.int p1), .val (.int p2), .val (.int p3), .val (.int p4), .val (.int p5), .val (.int p6), .val (.int z), .val (.int av), .val (.int bv), .val (.int kv), .val (.double (4787326403894837248 : UInt64)), .second, .val (.ref b1_), .val (.int (1 : Int32))] [(.int (0 : Int32)), (.int (if p6 = (0 : Int32) then (1 : Int32) else (0 : Int32)))])) tT
          refine XS.icmpNo X15_.here hx rfl (Jvm.hb hby at_195) rfl (teq (if_neg hc187_16_ : (if p6 = (0 : Int32) then (1 : Int32) else (0 : Int32)) = (0 : Int32))).2 ?_
          show Steps pP.tables eE below (T15_.setTop (mkF mM 198 #[.val (.int p1), .val (.int p2), .val (.int p3), .val (.int p4), .val (.int p5), .val (.int p6), .val (.int z), .val (.int av), .val (.int bv), .val (.int kv), .val (.double (4787326403894837248 : UInt64)), .second, .val (.ref b1_), .val (.int (1 : Int32))] [])) tT
          refine XS.iconst X15_.here hx rfl (Jvm.hb hby at_198) ?_
          show Steps pP.tables eE below (T15_.setTop (mkF mM 199 #[.val (.int p1), .val (.int p2), .val (.int p3), .val (.int p4), .val (.int p5), .val (.int p6), .val (.int z), .val (.int av), .val (.int bv), .val (.int kv), .val (.double (4787326403894837248 : UInt64)), .second, .val (.ref b1_), .val (.int (1 : Int32))] [(.int (1 : Int32))])) tT
          refine XS.goto X15_.here hx rfl (pc0 := 199) (pc' := 203) rfl (Jvm.hb hby at_199) (by decide) (by decide) ?_
          show Steps pP.tables eE below (T15_.setTop (mkF mM 203 #[.val (.int p1), .val (.int p2), .val (.int p3), .val (.int p4), .val (.int p5), .val (.int p6), .val (.int z), .val (.int av), .val (.int bv), .val (.int kv), .val (.double (4787326403894837248 : UInt64)), .second, .val (.ref b1_), .val (.int (1 : Int32))] [(.int (1 : Int32))])) tT
          refine XS.istore X15_.here hx rfl (Jvm.hb hby at_203) rfl (l' := #[.val (.int p1), .val (.int p2), .val (.int p3), .val (.int p4), .val (.int p5), .val (.int p6), .val (.int z), .val (.int av), .val (.int bv), .val (.int kv), .val (.double (4787326403894837248 : UInt64)), .second, .val (.ref b1_), .val (.int (1 : Int32))]) rfl ?_
          show Steps pP.tables eE below (T15_.setTop (mkF mM 205 #[.val (.int p1), .val (.int p2), .val (.int p3), .val (.int p4), .val (.int p5), .val (.int p6), .val (.int z), .val (.int av), .val (.int bv), .val (.int kv), .val (.double (4787326403894837248 : UInt64)), .second, .val (.ref b1_), .val (.int (1 : Int32))] [])) tT
          refine XS.iload X15_.here hx rfl (Jvm.hb hby at_205) rfl ?_
          show Steps pP.tables eE below (T15_.setTop (mkF mM 207 #[.val (.int p1), .val (.int p2), .val (.int p3), .val (.int p4), .val (.int p5), .val (.int p6), .val (.int z), .val (.int av), .val (.int bv), .val (.int kv), .val (.double (4787326403894837248 : UInt64)), .second, .val (.ref b1_), .val (.int (1 : Int32))] [(.int (1 : Int32))])) tT
          refine XS.ifNo X15_.here hx rfl (Jvm.hb hby at_207) rfl ((if0 _ _).trans (feq ((by decide) : ¬ ((1 : Int32) = (0 : Int32)))).1) ?_
          show Steps pP.tables eE below (T15_.setTop (mkF mM 210 #[.val (.int p1), .val (.int p2), .val (.int p3), .val (.int p4), .val (.int p5), .val (.int p6), .val (.int z), .val (.int av), .val (.int bv), .val (.int kv), .val (.double (4787326403894837248 : UInt64)), .second, .val (.ref b1_), .val (.int (1 : Int32))] [])) tT
          refine XS.aload X15_.here hx rfl (Jvm.hb hby at_210) rfl rfl ?_
          show Steps pP.tables eE below (T15_.setTop (mkF mM 212 #[.val (.int p1), .val (.int p2), .val (.int p3), .val (.int p4), .val (.int p5), .val (.int p6), .val (.int z), .val (.int av), .val (.int bv), .val (.int kv), .val (.double (4787326403894837248 : UInt64)), .second, .val (.ref b1_), .val (.int (1 : Int32))] [(.ref b1_)])) tT
          refine XS.iload X15_.here hx rfl (Jvm.hb hby at_212) rfl ?_
          show Steps pP.tables eE below (T15_.setTop (mkF mM 214 #[.val (.int p1), .val (.int p2), .val (.int p3), .val (.int p4), .val (.int p5), .val (.int p6), .val (.int z), .val (.int av), .val (.int bv), .val (.int kv), .val (.double (4787326403894837248 : UInt64)), .second, .val (.ref b1_), .val (.int (1 : Int32))] [(.int bv), (.ref b1_)])) tT
          exact kK
        obtain ⟨cq20_, kq20_, q20_a, q20_b, q20_c⟩ := isOf hZ p15__0 p10__1
        obtain ⟨_, _, ⟨T20_, L20_, k20_, n20_⟩, -, X20_, ⟨Lc20_, hQ20_, l20_, y20_, z20_⟩, st20_⟩ := X15_.virtualBack hx (y := (⟨"com/example/chains_to_rank/chainstorank/ranker/Scores", "isScored", "(I)Z"⟩ : MethodName)) (z := (⟨"com/example/chains_to_rank/chainstorank/ranker/Scores", "isScored", "(I)Z"⟩ : MethodName)) hown (mvT hZ (hw _ (List.mem_of_getElem? (i := 65) rfl))) (mvT hZ (hw _ (List.mem_of_getElem? (i := 66) rfl))) (notFace_of_selects (args := #[]) (mvT hZ (hw _ (List.mem_of_getElem? (i := 68) rfl)))) (mvT hZ (hw _ (List.mem_of_getElem? (i := 68) rfl))) (mvT hZ (hw _ (List.mem_of_getElem? (i := 67) rfl))) (by decide) (backOf (W := 0) (rm_isScored lL Z a0 hw [] b1_ bv b_2_ z (own_up (fun _ => (0 : Int32)) av (1 : Int32)) T10_.heap n0 (Nat.le_trans Z0 K10_.1) p10__5 p10__10 hbi) hZ (hw _ (List.mem_of_getElem? (i := 69) rfl)) (hw _ (List.mem_of_getElem? (i := 4) rfl)) (by decide) (by decide)) q20_a q20_c (g := (mkF mM 214 #[.val (.int p1), .val (.int p2), .val (.int p3), .val (.int p4), .val (.int p5), .val (.int p6), .val (.int z), .val (.int av), .val (.int bv), .val (.int kv), .val (.double (4787326403894837248 : UInt64)), .second, .val (.ref b1_), .val (.int (1 : Int32))] [(.int bv), (.ref b1_)])) rfl (by rw [hml]; rfl) (Steps.refl _) (argsL := [(.int bv)]) (rest := []) (lenOf own_pd8 rfl) rfl (by show 2 * 0 + _ ≤ _; exact Nat.le_of_eq rfl) (Jvm.hb hby at_214) (fun _ _ => ⟨rfl, p15__0, (by decide : 5 + 0 ≤ _), (by decide : 21 + 0 ≤ _)⟩)
        dsimp only [Pt.U, Pt.locs, Pt.cells, Pt.slots] at X20_ l20_ y20_ z20_ st20_ hQ20_
        subst l20_ y20_ z20_
        obtain ⟨rfl, N20_q, p20__0⟩ := hQ20_
        have N20_ := Fr.app N15_ N20_q
        refine own_fin (fun tT kK => st20_.trans kK) ?_
        show own_Fin pP eE below _ (T20_.setTop (mkF mM 217 #[.val (.int p1), .val (.int p2), .val (.int p3), .val (.int p4), .val (.int p5), .val (.int p6), .val (.int z), .val (.int av), .val (.int bv), .val (.int kv), .val (.double (4787326403894837248 : UInt64)), .second, .val (.ref b1_), .val (.int (1 : Int32))] [(.int (nar .boolean ((own_up (fun _ => (0 : Int32)) av (1 : Int32)) bv)))]))
        refine own_fin (b := T20_.setTop (mkF mM 221 #[.val (.int p1), .val (.int p2), .val (.int p3), .val (.int p4), .val (.int p5), .val (.int p6), .val (.int z), .val (.int av), .val (.int bv), .val (.int kv), .val (.double (4787326403894837248 : UInt64)), .second, .val (.ref b1_), .val (.int (1 : Int32))] [(.int av), (.int bv), (.int (nar .boolean ((own_up (fun _ => (0 : Int32)) av (1 : Int32)) bv)))])) (fun tT kK => ?_) ?_
        · show Steps pP.tables eE below (T20_.setTop (mkF mM 217 #[.val (.int p1), .val (.int p2), .val (.int p3), .val (.int p4), .val (.int p5), .val (.int p6), .val (.int z), .val (.int av), .val (.int bv), .val (.int kv), .val (.double (4787326403894837248 : UInt64)), .second, .val (.ref b1_), .val (.int (1 : Int32))] [(.int (nar .boolean ((own_up (fun _ => (0 : Int32)) av (1 : Int32)) bv)))])) tT
          refine XS.iload X20_.here hx rfl (Jvm.hb hby at_217) rfl ?_
          show Steps pP.tables eE below (T20_.setTop (mkF mM 219 #[.val (.int p1), .val (.int p2), .val (.int p3), .val (.int p4), .val (.int p5), .val (.int p6), .val (.int z), .val (.int av), .val (.int bv), .val (.int kv), .val (.double (4787326403894837248 : UInt64)), .second, .val (.ref b1_), .val (.int (1 : Int32))] [(.int bv), (.int (nar .boolean ((own_up (fun _ => (0 : Int32)) av (1 : Int32)) bv)))])) tT
          refine XS.iload X20_.here hx rfl (Jvm.hb hby at_219) rfl ?_
          show Steps pP.tables eE below (T20_.setTop (mkF mM 221 #[.val (.int p1), .val (.int p2), .val (.int p3), .val (.int p4), .val (.int p5), .val (.int p6), .val (.int z), .val (.int av), .val (.int bv), .val (.int kv), .val (.double (4787326403894837248 : UInt64)), .second, .val (.ref b1_), .val (.int (1 : Int32))] [(.int av), (.int bv), (.int (nar .boolean ((own_up (fun _ => (0 : Int32)) av (1 : Int32)) bv)))])) tT
          exact kK
        by_cases hc221_21_ : bv = av
        · refine own_fin (b := T20_.setTop (mkF mM 272 #[.val (.int p1), .val (.int p2), .val (.int p3), .val (.int p4), .val (.int p5), .val (.int p6), .val (.int z), .val (.int av), .val (.int bv), .val (.int kv), .val (.double (4787326403894837248 : UInt64)), .second, .val (.ref b1_), .val (.int (1 : Int32))] [(.int (1 : Int32))])) (fun tT kK => ?_) ?_
          · show Steps pP.tables eE below (T20_.setTop (mkF mM 221 #[.val (.int p1), .val (.int p2), .val (.int p3), .val (.int p4), .val (.int p5), .val (.int p6), .val (.int z), .val (.int av), .val (.int bv), .val (.int kv), .val (.double (4787326403894837248 : UInt64)), .second, .val (.ref b1_), .val (.int (1 : Int32))] [(.int av), (.int bv), (.int (nar .boolean ((own_up (fun _ => (0 : Int32)) av (1 : Int32)) bv)))])) tT
            refine XS.icmpNo X20_.here hx rfl (Jvm.hb hby at_221) rfl (teq (hc221_21_ : bv = av)).2 ?_
            show Steps pP.tables eE below (T20_.setTop (mkF mM 224 #[.val (.int p1), .val (.int p2), .val (.int p3), .val (.int p4), .val (.int p5), .val (.int p6), .val (.int z), .val (.int av), .val (.int bv), .val (.int kv), .val (.double (4787326403894837248 : UInt64)), .second, .val (.ref b1_), .val (.int (1 : Int32))] [(.int (nar .boolean ((own_up (fun _ => (0 : Int32)) av (1 : Int32)) bv)))])) tT
            refine XS.iconst X20_.here hx rfl (Jvm.hb hby at_224) ?_
            show Steps pP.tables eE below (T20_.setTop (mkF mM 225 #[.val (.int p1), .val (.int p2), .val (.int p3), .val (.int p4), .val (.int p5), .val (.int p6), .val (.int z), .val (.int av), .val (.int bv), .val (.int kv), .val (.double (4787326403894837248 : UInt64)), .second, .val (.ref b1_), .val (.int (1 : Int32))] [(.int (1 : Int32)), (.int (nar .boolean ((own_up (fun _ => (0 : Int32)) av (1 : Int32)) bv)))])) tT
            refine XS.goto X20_.here hx rfl (pc0 := 225) (pc' := 229) rfl (Jvm.hb hby at_225) (by decide) (by decide) ?_
            show Steps pP.tables eE below (T20_.setTop (mkF mM 229 #[.val (.int p1), .val (.int p2), .val (.int p3), .val (.int p4), .val (.int p5), .val (.int p6), .val (.int z), .val (.int av), .val (.int bv), .val (.int kv), .val (.double (4787326403894837248 : UInt64)), .second, .val (.ref b1_), .val (.int (1 : Int32))] [(.int (1 : Int32)), (.int (nar .boolean ((own_up (fun _ => (0 : Int32)) av (1 : Int32)) bv)))])) tT
            refine XS.icmpNo X20_.here hx rfl (Jvm.hb hby at_229) rfl (teq ((by rw [hc221_21_, own_hit]; rfl) : (nar .boolean ((own_up (fun _ => (0 : Int32)) av (1 : Int32)) bv)) = (1 : Int32))).2 ?_
            show Steps pP.tables eE below (T20_.setTop (mkF mM 232 #[.val (.int p1), .val (.int p2), .val (.int p3), .val (.int p4), .val (.int p5), .val (.int p6), .val (.int z), .val (.int av), .val (.int bv), .val (.int kv), .val (.double (4787326403894837248 : UInt64)), .second, .val (.ref b1_), .val (.int (1 : Int32))] [])) tT
            refine XS.iconst X20_.here hx rfl (Jvm.hb hby at_232) ?_
            show Steps pP.tables eE below (T20_.setTop (mkF mM 233 #[.val (.int p1), .val (.int p2), .val (.int p3), .val (.int p4), .val (.int p5), .val (.int p6), .val (.int z), .val (.int av), .val (.int bv), .val (.int kv), .val (.double (4787326403894837248 : UInt64)), .second, .val (.ref b1_), .val (.int (1 : Int32))] [(.int (1 : Int32))])) tT
            refine XS.goto X20_.here hx rfl (pc0 := 233) (pc' := 237) rfl (Jvm.hb hby at_233) (by decide) (by decide) ?_
            show Steps pP.tables eE below (T20_.setTop (mkF mM 237 #[.val (.int p1), .val (.int p2), .val (.int p3), .val (.int p4), .val (.int p5), .val (.int p6), .val (.int z), .val (.int av), .val (.int bv), .val (.int kv), .val (.double (4787326403894837248 : UInt64)), .second, .val (.ref b1_), .val (.int (1 : Int32))] [(.int (1 : Int32))])) tT
            refine XS.istore X20_.here hx rfl (Jvm.hb hby at_237) rfl (l' := #[.val (.int p1), .val (.int p2), .val (.int p3), .val (.int p4), .val (.int p5), .val (.int p6), .val (.int z), .val (.int av), .val (.int bv), .val (.int kv), .val (.double (4787326403894837248 : UInt64)), .second, .val (.ref b1_), .val (.int (1 : Int32))]) rfl ?_
            show Steps pP.tables eE below (T20_.setTop (mkF mM 239 #[.val (.int p1), .val (.int p2), .val (.int p3), .val (.int p4), .val (.int p5), .val (.int p6), .val (.int z), .val (.int av), .val (.int bv), .val (.int kv), .val (.double (4787326403894837248 : UInt64)), .second, .val (.ref b1_), .val (.int (1 : Int32))] [])) tT
            refine XS.iload X20_.here hx rfl (Jvm.hb hby at_239) rfl ?_
            show Steps pP.tables eE below (T20_.setTop (mkF mM 241 #[.val (.int p1), .val (.int p2), .val (.int p3), .val (.int p4), .val (.int p5), .val (.int p6), .val (.int z), .val (.int av), .val (.int bv), .val (.int kv), .val (.double (4787326403894837248 : UInt64)), .second, .val (.ref b1_), .val (.int (1 : Int32))] [(.int (1 : Int32))])) tT
            refine XS.ifNo X20_.here hx rfl (Jvm.hb hby at_241) rfl ((if0 _ _).trans (feq ((by decide) : ¬ ((1 : Int32) = (0 : Int32)))).1) ?_
            show Steps pP.tables eE below (T20_.setTop (mkF mM 244 #[.val (.int p1), .val (.int p2), .val (.int p3), .val (.int p4), .val (.int p5), .val (.int p6), .val (.int z), .val (.int av), .val (.int bv), .val (.int kv), .val (.double (4787326403894837248 : UInt64)), .second, .val (.ref b1_), .val (.int (1 : Int32))] [])) tT
            refine XS.iload X20_.here hx rfl (Jvm.hb hby at_244) rfl ?_
            show Steps pP.tables eE below (T20_.setTop (mkF mM 246 #[.val (.int p1), .val (.int p2), .val (.int p3), .val (.int p4), .val (.int p5), .val (.int p6), .val (.int z), .val (.int av), .val (.int bv), .val (.int kv), .val (.double (4787326403894837248 : UInt64)), .second, .val (.ref b1_), .val (.int (1 : Int32))] [(.int bv)])) tT
            refine XS.iload X20_.here hx rfl (Jvm.hb hby at_246) rfl ?_
            show Steps pP.tables eE below (T20_.setTop (mkF mM 248 #[.val (.int p1), .val (.int p2), .val (.int p3), .val (.int p4), .val (.int p5), .val (.int p6), .val (.int z), .val (.int av), .val (.int bv), .val (.int kv), .val (.double (4787326403894837248 : UInt64)), .second, .val (.ref b1_), .val (.int (1 : Int32))] [(.int av), (.int bv)])) tT
            refine XS.icmpYes X20_.here hx rfl (pc0 := 248) (pc' := 263) rfl (Jvm.hb hby at_248) rfl (teq (hc221_21_ : bv = av)).1 (by decide) (by decide) ?_
            show Steps pP.tables eE below (T20_.setTop (mkF mM 263 #[.val (.int p1), .val (.int p2), .val (.int p3), .val (.int p4), .val (.int p5), .val (.int p6), .val (.int z), .val (.int av), .val (.int bv), .val (.int kv), .val (.double (4787326403894837248 : UInt64)), .second, .val (.ref b1_), .val (.int (1 : Int32))] [])) tT
            refine XS.iconst X20_.here hx rfl (Jvm.hb hby at_263) ?_
            show Steps pP.tables eE below (T20_.setTop (mkF mM 264 #[.val (.int p1), .val (.int p2), .val (.int p3), .val (.int p4), .val (.int p5), .val (.int p6), .val (.int z), .val (.int av), .val (.int bv), .val (.int kv), .val (.double (4787326403894837248 : UInt64)), .second, .val (.ref b1_), .val (.int (1 : Int32))] [(.int (1 : Int32))])) tT
            refine XS.goto X20_.here hx rfl (pc0 := 264) (pc' := 268) rfl (Jvm.hb hby at_264) (by decide) (by decide) ?_
            show Steps pP.tables eE below (T20_.setTop (mkF mM 268 #[.val (.int p1), .val (.int p2), .val (.int p3), .val (.int p4), .val (.int p5), .val (.int p6), .val (.int z), .val (.int av), .val (.int bv), .val (.int kv), .val (.double (4787326403894837248 : UInt64)), .second, .val (.ref b1_), .val (.int (1 : Int32))] [(.int (1 : Int32))])) tT
            refine XS.istore X20_.here hx rfl (Jvm.hb hby at_268) rfl (l' := #[.val (.int p1), .val (.int p2), .val (.int p3), .val (.int p4), .val (.int p5), .val (.int p6), .val (.int z), .val (.int av), .val (.int bv), .val (.int kv), .val (.double (4787326403894837248 : UInt64)), .second, .val (.ref b1_), .val (.int (1 : Int32))]) rfl ?_
            show Steps pP.tables eE below (T20_.setTop (mkF mM 270 #[.val (.int p1), .val (.int p2), .val (.int p3), .val (.int p4), .val (.int p5), .val (.int p6), .val (.int z), .val (.int av), .val (.int bv), .val (.int kv), .val (.double (4787326403894837248 : UInt64)), .second, .val (.ref b1_), .val (.int (1 : Int32))] [])) tT
            refine XS.iload X20_.here hx rfl (Jvm.hb hby at_270) rfl ?_
            show Steps pP.tables eE below (T20_.setTop (mkF mM 272 #[.val (.int p1), .val (.int p2), .val (.int p3), .val (.int p4), .val (.int p5), .val (.int p6), .val (.int z), .val (.int av), .val (.int bv), .val (.int kv), .val (.double (4787326403894837248 : UInt64)), .second, .val (.ref b1_), .val (.int (1 : Int32))] [(.int (1 : Int32))])) tT
            exact kK
          obtain ⟨fs, hr, hrun, hended, hW, hsame⟩ := X20_.leave (v := some (.int (1 : Int32))) (fun h => by rw [Bd.returns] at h; cases h)
          refine ⟨_, _, ?_, hrun, hended, _, _, rfl, ?_, ⟨_, rfl⟩, hW, hsame.mono (by decide) (by decide)⟩
          · show Steps pP.tables eE below (T20_.setTop (mkF mM 272 #[.val (.int p1), .val (.int p2), .val (.int p3), .val (.int p4), .val (.int p5), .val (.int p6), .val (.int z), .val (.int av), .val (.int bv), .val (.int kv), .val (.double (4787326403894837248 : UInt64)), .second, .val (.ref b1_), .val (.int (1 : Int32))] [(.int (1 : Int32))])) _
            exact retN X20_ hx (t := .boolean) Bd.returns (by simp) (Jvm.hb hby at_272) hr
          · show Q_rm0 Z p1 p2 p3 p4 p5 p6 h0 n0 _ T20_.heap _
            rw [p20__0]
            exact ⟨rfl, N20_⟩
        · refine own_fin (b := T20_.setTop (mkF mM 255 #[.val (.int p1), .val (.int p2), .val (.int p3), .val (.int p4), .val (.int p5), .val (.int p6), .val (.int z), .val (.int av), .val (.int bv), .val (.int kv), .val (.double (4787326403894837248 : UInt64)), .second, .val (.ref b1_), .val (.int (1 : Int32))] [(.int bv), (.ref b1_)])) (fun tT kK => ?_) ?_
          · show Steps pP.tables eE below (T20_.setTop (mkF mM 221 #[.val (.int p1), .val (.int p2), .val (.int p3), .val (.int p4), .val (.int p5), .val (.int p6), .val (.int z), .val (.int av), .val (.int bv), .val (.int kv), .val (.double (4787326403894837248 : UInt64)), .second, .val (.ref b1_), .val (.int (1 : Int32))] [(.int av), (.int bv), (.int (nar .boolean ((own_up (fun _ => (0 : Int32)) av (1 : Int32)) bv)))])) tT
            refine XS.icmpYes X20_.here hx rfl (pc0 := 221) (pc' := 228) rfl (Jvm.hb hby at_221) rfl (feq (hc221_21_ : ¬ (bv = av))).2 (by decide) (by decide) ?_
            show Steps pP.tables eE below (T20_.setTop (mkF mM 228 #[.val (.int p1), .val (.int p2), .val (.int p3), .val (.int p4), .val (.int p5), .val (.int p6), .val (.int z), .val (.int av), .val (.int bv), .val (.int kv), .val (.double (4787326403894837248 : UInt64)), .second, .val (.ref b1_), .val (.int (1 : Int32))] [(.int (nar .boolean ((own_up (fun _ => (0 : Int32)) av (1 : Int32)) bv)))])) tT
            refine XS.iconst X20_.here hx rfl (Jvm.hb hby at_228) ?_
            show Steps pP.tables eE below (T20_.setTop (mkF mM 229 #[.val (.int p1), .val (.int p2), .val (.int p3), .val (.int p4), .val (.int p5), .val (.int p6), .val (.int z), .val (.int av), .val (.int bv), .val (.int kv), .val (.double (4787326403894837248 : UInt64)), .second, .val (.ref b1_), .val (.int (1 : Int32))] [(.int (0 : Int32)), (.int (nar .boolean ((own_up (fun _ => (0 : Int32)) av (1 : Int32)) bv)))])) tT
            refine XS.icmpNo X20_.here hx rfl (Jvm.hb hby at_229) rfl (teq ((by rw [own_miss (Ne.symm hc221_21_)]; rfl) : (nar .boolean ((own_up (fun _ => (0 : Int32)) av (1 : Int32)) bv)) = (0 : Int32))).2 ?_
            show Steps pP.tables eE below (T20_.setTop (mkF mM 232 #[.val (.int p1), .val (.int p2), .val (.int p3), .val (.int p4), .val (.int p5), .val (.int p6), .val (.int z), .val (.int av), .val (.int bv), .val (.int kv), .val (.double (4787326403894837248 : UInt64)), .second, .val (.ref b1_), .val (.int (1 : Int32))] [])) tT
            refine XS.iconst X20_.here hx rfl (Jvm.hb hby at_232) ?_
            show Steps pP.tables eE below (T20_.setTop (mkF mM 233 #[.val (.int p1), .val (.int p2), .val (.int p3), .val (.int p4), .val (.int p5), .val (.int p6), .val (.int z), .val (.int av), .val (.int bv), .val (.int kv), .val (.double (4787326403894837248 : UInt64)), .second, .val (.ref b1_), .val (.int (1 : Int32))] [(.int (1 : Int32))])) tT
            refine XS.goto X20_.here hx rfl (pc0 := 233) (pc' := 237) rfl (Jvm.hb hby at_233) (by decide) (by decide) ?_
            show Steps pP.tables eE below (T20_.setTop (mkF mM 237 #[.val (.int p1), .val (.int p2), .val (.int p3), .val (.int p4), .val (.int p5), .val (.int p6), .val (.int z), .val (.int av), .val (.int bv), .val (.int kv), .val (.double (4787326403894837248 : UInt64)), .second, .val (.ref b1_), .val (.int (1 : Int32))] [(.int (1 : Int32))])) tT
            refine XS.istore X20_.here hx rfl (Jvm.hb hby at_237) rfl (l' := #[.val (.int p1), .val (.int p2), .val (.int p3), .val (.int p4), .val (.int p5), .val (.int p6), .val (.int z), .val (.int av), .val (.int bv), .val (.int kv), .val (.double (4787326403894837248 : UInt64)), .second, .val (.ref b1_), .val (.int (1 : Int32))]) rfl ?_
            show Steps pP.tables eE below (T20_.setTop (mkF mM 239 #[.val (.int p1), .val (.int p2), .val (.int p3), .val (.int p4), .val (.int p5), .val (.int p6), .val (.int z), .val (.int av), .val (.int bv), .val (.int kv), .val (.double (4787326403894837248 : UInt64)), .second, .val (.ref b1_), .val (.int (1 : Int32))] [])) tT
            refine XS.iload X20_.here hx rfl (Jvm.hb hby at_239) rfl ?_
            show Steps pP.tables eE below (T20_.setTop (mkF mM 241 #[.val (.int p1), .val (.int p2), .val (.int p3), .val (.int p4), .val (.int p5), .val (.int p6), .val (.int z), .val (.int av), .val (.int bv), .val (.int kv), .val (.double (4787326403894837248 : UInt64)), .second, .val (.ref b1_), .val (.int (1 : Int32))] [(.int (1 : Int32))])) tT
            refine XS.ifNo X20_.here hx rfl (Jvm.hb hby at_241) rfl ((if0 _ _).trans (feq ((by decide) : ¬ ((1 : Int32) = (0 : Int32)))).1) ?_
            show Steps pP.tables eE below (T20_.setTop (mkF mM 244 #[.val (.int p1), .val (.int p2), .val (.int p3), .val (.int p4), .val (.int p5), .val (.int p6), .val (.int z), .val (.int av), .val (.int bv), .val (.int kv), .val (.double (4787326403894837248 : UInt64)), .second, .val (.ref b1_), .val (.int (1 : Int32))] [])) tT
            refine XS.iload X20_.here hx rfl (Jvm.hb hby at_244) rfl ?_
            show Steps pP.tables eE below (T20_.setTop (mkF mM 246 #[.val (.int p1), .val (.int p2), .val (.int p3), .val (.int p4), .val (.int p5), .val (.int p6), .val (.int z), .val (.int av), .val (.int bv), .val (.int kv), .val (.double (4787326403894837248 : UInt64)), .second, .val (.ref b1_), .val (.int (1 : Int32))] [(.int bv)])) tT
            refine XS.iload X20_.here hx rfl (Jvm.hb hby at_246) rfl ?_
            show Steps pP.tables eE below (T20_.setTop (mkF mM 248 #[.val (.int p1), .val (.int p2), .val (.int p3), .val (.int p4), .val (.int p5), .val (.int p6), .val (.int z), .val (.int av), .val (.int bv), .val (.int kv), .val (.double (4787326403894837248 : UInt64)), .second, .val (.ref b1_), .val (.int (1 : Int32))] [(.int av), (.int bv)])) tT
            refine XS.icmpNo X20_.here hx rfl (Jvm.hb hby at_248) rfl (feq (hc221_21_ : ¬ (bv = av))).1 ?_
            show Steps pP.tables eE below (T20_.setTop (mkF mM 251 #[.val (.int p1), .val (.int p2), .val (.int p3), .val (.int p4), .val (.int p5), .val (.int p6), .val (.int z), .val (.int av), .val (.int bv), .val (.int kv), .val (.double (4787326403894837248 : UInt64)), .second, .val (.ref b1_), .val (.int (1 : Int32))] [])) tT
            refine XS.aload X20_.here hx rfl (Jvm.hb hby at_251) rfl rfl ?_
            show Steps pP.tables eE below (T20_.setTop (mkF mM 253 #[.val (.int p1), .val (.int p2), .val (.int p3), .val (.int p4), .val (.int p5), .val (.int p6), .val (.int z), .val (.int av), .val (.int bv), .val (.int kv), .val (.double (4787326403894837248 : UInt64)), .second, .val (.ref b1_), .val (.int (1 : Int32))] [(.ref b1_)])) tT
            refine XS.iload X20_.here hx rfl (Jvm.hb hby at_253) rfl ?_
            show Steps pP.tables eE below (T20_.setTop (mkF mM 255 #[.val (.int p1), .val (.int p2), .val (.int p3), .val (.int p4), .val (.int p5), .val (.int p6), .val (.int z), .val (.int av), .val (.int bv), .val (.int kv), .val (.double (4787326403894837248 : UInt64)), .second, .val (.ref b1_), .val (.int (1 : Int32))] [(.int bv), (.ref b1_)])) tT
            exact kK
          obtain ⟨cq22_, kq22_, q22_a, q22_b, q22_c⟩ := isOf hZ p20__0 p10__1
          obtain ⟨_, _, ⟨T22_, L22_, k22_, n22_⟩, -, X22_, ⟨Lc22_, hQ22_, l22_, y22_, z22_⟩, st22_⟩ := X20_.virtualBack hx (y := (⟨"com/example/chains_to_rank/chainstorank/ranker/Scores", "value", "(I)D"⟩ : MethodName)) (z := (⟨"com/example/chains_to_rank/chainstorank/ranker/Scores", "value", "(I)D"⟩ : MethodName)) hown (mvT hZ (hw _ (List.mem_of_getElem? (i := 48) rfl))) (mvT hZ (hw _ (List.mem_of_getElem? (i := 49) rfl))) (notFace_of_selects (args := #[]) (mvT hZ (hw _ (List.mem_of_getElem? (i := 51) rfl)))) (mvT hZ (hw _ (List.mem_of_getElem? (i := 51) rfl))) (mvT hZ (hw _ (List.mem_of_getElem? (i := 50) rfl))) (by decide) (backOf (W := 0) (rm_value lL Z a0 hw [] b1_ bv v_2_ z (own_upD (fun _ => (0 : UInt64)) av (FP.i2d p6)) T10_.heap n0 (Nat.le_trans Z0 K10_.1) p10__2 p10__7 hbi) hZ (hw _ (List.mem_of_getElem? (i := 52) rfl)) (hw _ (List.mem_of_getElem? (i := 4) rfl)) (by decide) (by decide)) q22_a q22_c (g := (mkF mM 255 #[.val (.int p1), .val (.int p2), .val (.int p3), .val (.int p4), .val (.int p5), .val (.int p6), .val (.int z), .val (.int av), .val (.int bv), .val (.int kv), .val (.double (4787326403894837248 : UInt64)), .second, .val (.ref b1_), .val (.int (1 : Int32))] [(.int bv), (.ref b1_)])) rfl (by rw [hml]; rfl) (Steps.refl _) (argsL := [(.int bv)]) (rest := []) (lenOf own_pd7 rfl) rfl (by show 2 * 0 + _ ≤ _; exact Nat.le_of_eq rfl) (Jvm.hb hby at_255) (fun _ _ => ⟨rfl, p20__0, (by decide : 5 + 0 ≤ _), (by decide : 21 + 0 ≤ _)⟩)
          dsimp only [Pt.U, Pt.locs, Pt.cells, Pt.slots] at X22_ l22_ y22_ z22_ st22_ hQ22_
          subst l22_ y22_ z22_
          obtain ⟨rfl, N22_q, p22__0⟩ := hQ22_
          have N22_ := Fr.app N20_ N22_q
          refine own_fin (fun tT kK => st22_.trans kK) ?_
          show own_Fin pP eE below _ (T22_.setTop (mkF mM 258 #[.val (.int p1), .val (.int p2), .val (.int p3), .val (.int p4), .val (.int p5), .val (.int p6), .val (.int z), .val (.int av), .val (.int bv), .val (.int kv), .val (.double (4787326403894837248 : UInt64)), .second, .val (.ref b1_), .val (.int (1 : Int32))] [(.double ((own_upD (fun _ => (0 : UInt64)) av (FP.i2d p6)) bv))]))
          refine own_fin (b := T22_.setTop (mkF mM 272 #[.val (.int p1), .val (.int p2), .val (.int p3), .val (.int p4), .val (.int p5), .val (.int p6), .val (.int z), .val (.int av), .val (.int bv), .val (.int kv), .val (.double (4787326403894837248 : UInt64)), .second, .val (.ref b1_), .val (.int (1 : Int32))] [(.int (1 : Int32))])) (fun tT kK => ?_) ?_
          · show Steps pP.tables eE below (T22_.setTop (mkF mM 258 #[.val (.int p1), .val (.int p2), .val (.int p3), .val (.int p4), .val (.int p5), .val (.int p6), .val (.int z), .val (.int av), .val (.int bv), .val (.int kv), .val (.double (4787326403894837248 : UInt64)), .second, .val (.ref b1_), .val (.int (1 : Int32))] [(.double ((own_upD (fun _ => (0 : UInt64)) av (FP.i2d p6)) bv))])) tT
            refine XS.dconst0 X22_.here hx rfl (Jvm.hb hby at_258) (v := (0 : UInt64)) rfl ?_
            show Steps pP.tables eE below (T22_.setTop (mkF mM 259 #[.val (.int p1), .val (.int p2), .val (.int p3), .val (.int p4), .val (.int p5), .val (.int p6), .val (.int z), .val (.int av), .val (.int bv), .val (.int kv), .val (.double (4787326403894837248 : UInt64)), .second, .val (.ref b1_), .val (.int (1 : Int32))] [(.double (0 : UInt64)), (.double ((own_upD (fun _ => (0 : UInt64)) av (FP.i2d p6)) bv))])) tT
            refine XS.dcmpS X22_.here hx rfl (Jvm.hb hby at_259) rfl (v := (0 : Int32)) (dcmpV_eq (own_missD (Ne.symm hc221_21_)) (by rw [own_missD (Ne.symm hc221_21_)]; exact own_zf.noNaN) _) ?_
            show Steps pP.tables eE below (T22_.setTop (mkF mM 260 #[.val (.int p1), .val (.int p2), .val (.int p3), .val (.int p4), .val (.int p5), .val (.int p6), .val (.int z), .val (.int av), .val (.int bv), .val (.int kv), .val (.double (4787326403894837248 : UInt64)), .second, .val (.ref b1_), .val (.int (1 : Int32))] [(.int (0 : Int32))])) tT
            refine XS.ifNo X22_.here hx rfl (Jvm.hb hby at_260) rfl ((if0 _ _).trans (teq ((by decide) : (0 : Int32) = (0 : Int32))).2) ?_
            show Steps pP.tables eE below (T22_.setTop (mkF mM 263 #[.val (.int p1), .val (.int p2), .val (.int p3), .val (.int p4), .val (.int p5), .val (.int p6), .val (.int z), .val (.int av), .val (.int bv), .val (.int kv), .val (.double (4787326403894837248 : UInt64)), .second, .val (.ref b1_), .val (.int (1 : Int32))] [])) tT
            refine XS.iconst X22_.here hx rfl (Jvm.hb hby at_263) ?_
            show Steps pP.tables eE below (T22_.setTop (mkF mM 264 #[.val (.int p1), .val (.int p2), .val (.int p3), .val (.int p4), .val (.int p5), .val (.int p6), .val (.int z), .val (.int av), .val (.int bv), .val (.int kv), .val (.double (4787326403894837248 : UInt64)), .second, .val (.ref b1_), .val (.int (1 : Int32))] [(.int (1 : Int32))])) tT
            refine XS.goto X22_.here hx rfl (pc0 := 264) (pc' := 268) rfl (Jvm.hb hby at_264) (by decide) (by decide) ?_
            show Steps pP.tables eE below (T22_.setTop (mkF mM 268 #[.val (.int p1), .val (.int p2), .val (.int p3), .val (.int p4), .val (.int p5), .val (.int p6), .val (.int z), .val (.int av), .val (.int bv), .val (.int kv), .val (.double (4787326403894837248 : UInt64)), .second, .val (.ref b1_), .val (.int (1 : Int32))] [(.int (1 : Int32))])) tT
            refine XS.istore X22_.here hx rfl (Jvm.hb hby at_268) rfl (l' := #[.val (.int p1), .val (.int p2), .val (.int p3), .val (.int p4), .val (.int p5), .val (.int p6), .val (.int z), .val (.int av), .val (.int bv), .val (.int kv), .val (.double (4787326403894837248 : UInt64)), .second, .val (.ref b1_), .val (.int (1 : Int32))]) rfl ?_
            show Steps pP.tables eE below (T22_.setTop (mkF mM 270 #[.val (.int p1), .val (.int p2), .val (.int p3), .val (.int p4), .val (.int p5), .val (.int p6), .val (.int z), .val (.int av), .val (.int bv), .val (.int kv), .val (.double (4787326403894837248 : UInt64)), .second, .val (.ref b1_), .val (.int (1 : Int32))] [])) tT
            refine XS.iload X22_.here hx rfl (Jvm.hb hby at_270) rfl ?_
            show Steps pP.tables eE below (T22_.setTop (mkF mM 272 #[.val (.int p1), .val (.int p2), .val (.int p3), .val (.int p4), .val (.int p5), .val (.int p6), .val (.int z), .val (.int av), .val (.int bv), .val (.int kv), .val (.double (4787326403894837248 : UInt64)), .second, .val (.ref b1_), .val (.int (1 : Int32))] [(.int (1 : Int32))])) tT
            exact kK
          obtain ⟨fs, hr, hrun, hended, hW, hsame⟩ := X22_.leave (v := some (.int (1 : Int32))) (fun h => by rw [Bd.returns] at h; cases h)
          refine ⟨_, _, ?_, hrun, hended, _, _, rfl, ?_, ⟨_, rfl⟩, hW, hsame.mono (by decide) (by decide)⟩
          · show Steps pP.tables eE below (T22_.setTop (mkF mM 272 #[.val (.int p1), .val (.int p2), .val (.int p3), .val (.int p4), .val (.int p5), .val (.int p6), .val (.int z), .val (.int av), .val (.int bv), .val (.int kv), .val (.double (4787326403894837248 : UInt64)), .second, .val (.ref b1_), .val (.int (1 : Int32))] [(.int (1 : Int32))])) _
            exact retN X22_ hx (t := .boolean) Bd.returns (by simp) (Jvm.hb hby at_272) hr
          · show Q_rm0 Z p1 p2 p3 p4 p5 p6 h0 n0 _ T22_.heap _
            rw [p22__0]
            exact ⟨rfl, N22_⟩
    rcases hInv with ⟨rfl, hI⟩ | ⟨rfl, hs0, hI⟩ | ⟨rfl, hs0, hs1, hI⟩
    · show own_Fin pP eE below _ (Tj8_.setTop (mkF mM 93 #[.val (.int p1), .val (.int p2), .val (.int p3), .val (.int p4), .val (.int p5), .val (.int p6), .val (.int z), .val (.int av), .val (.int bv), .val (.int kv), .val (.double (4787326403894837248 : UInt64)), .second, .val (.ref b1_), .unset] []))
      refine own_fin (b := Tj8_.setTop (mkF mM 95 #[.val (.int p1), .val (.int p2), .val (.int p3), .val (.int p4), .val (.int p5), .val (.int p6), .val (.int z), .val (.int av), .val (.int bv), .val (.int kv), .val (.double (4787326403894837248 : UInt64)), .second, .val (.ref b1_), .unset] [(.ref b1_)])) (fun tT kK => ?_) ?_
      · show Steps pP.tables eE below (Tj8_.setTop (mkF mM 93 #[.val (.int p1), .val (.int p2), .val (.int p3), .val (.int p4), .val (.int p5), .val (.int p6), .val (.int z), .val (.int av), .val (.int bv), .val (.int kv), .val (.double (4787326403894837248 : UInt64)), .second, .val (.ref b1_), .unset] [])) tT
        refine XS.aload Xj8_.here hx rfl (Jvm.hb hby at_93) rfl rfl ?_
        show Steps pP.tables eE below (Tj8_.setTop (mkF mM 95 #[.val (.int p1), .val (.int p2), .val (.int p3), .val (.int p4), .val (.int p5), .val (.int p6), .val (.int z), .val (.int av), .val (.int bv), .val (.int kv), .val (.double (4787326403894837248 : UInt64)), .second, .val (.ref b1_), .unset] [(.ref b1_)])) tT
        exact kK
      obtain ⟨cq23_, kq23_, q23_a, q23_b, q23_c⟩ := isOf hZ ej8_ fj8__0
      obtain ⟨_, _, ⟨T23_, L23_, k23_, n23_⟩, -, X23_, ⟨Lc23_, hQ23_, l23_, y23_, z23_⟩, st23_⟩ := Xj8_.virtualBack hx (y := (⟨"com/example/chains_to_rank/chainstorank/ranker/Scores", "clear", "()V"⟩ : MethodName)) (z := (⟨"com/example/chains_to_rank/chainstorank/ranker/Scores", "clear", "()V"⟩ : MethodName)) hown (mvT hZ (hw _ (List.mem_of_getElem? (i := 33) rfl))) (mvT hZ (hw _ (List.mem_of_getElem? (i := 34) rfl))) (notFace_of_selects (args := #[]) (mvT hZ (hw _ (List.mem_of_getElem? (i := 36) rfl)))) (mvT hZ (hw _ (List.mem_of_getElem? (i := 36) rfl))) (mvT hZ (hw _ (List.mem_of_getElem? (i := 35) rfl))) (by decide) (backOf (W := 0) (rm_clr0 lL Z a0 hw [] b1_ v_2_ g_2_ s_2_ b_2_ z vf gf sf bf hj8_ n0 (Nat.le_trans Z0 Kj8_.1) fj8__0 fj8__1 fj8__2 fj8__3 fj8__4 fj8__5 fj8__6 fj8__7 fj8__8 fj8__9 ge_b1_ ge_v_2_ ge_g_2_ ge_s_2_ ge_b_2_ p2__5 p2__6 p2__7 p2__8 p2__9 p2__10 (Ne.symm ne3_) (Ne.symm ne4_) (Ne.symm ne5_) (Ne.symm ne6_) hI) hZ (hw _ (List.mem_of_getElem? (i := 37) rfl)) (hw _ (List.mem_of_getElem? (i := 4) rfl)) (by decide) (by decide)) q23_a q23_c (g := (mkF mM 95 #[.val (.int p1), .val (.int p2), .val (.int p3), .val (.int p4), .val (.int p5), .val (.int p6), .val (.int z), .val (.int av), .val (.int bv), .val (.int kv), .val (.double (4787326403894837248 : UInt64)), .second, .val (.ref b1_), .unset] [(.ref b1_)])) rfl (by rw [hml]; rfl) (Steps.refl _) (argsL := []) (rest := []) (lenOf own_pd9 rfl) rfl (by show 2 * 0 + _ ≤ _; exact Nat.le_of_eq rfl) (Jvm.hb hby at_95) (fun _ _ => ⟨rfl, ej8_, (by decide : 5 + 0 ≤ _), (by decide : 21 + 0 ≤ _)⟩)
      dsimp only [Pt.U, Pt.locs, Pt.cells, Pt.slots] at X23_ l23_ y23_ z23_ st23_ hQ23_
      subst l23_ y23_ z23_
      obtain ⟨rfl, N23_q, p23__0, p23__1, p23__2, p23__3, p23__4, p23__5, p23__6, p23__7, p23__8, p23__9, p23__10⟩ := hQ23_
      have N23_ := Fr.app Nj8_ N23_q
      have fc24_ := fj8__0.keep p23__0
      have K23_ := Kj8_.trans p23__0 (allS (Or.inr sz_b1_) (allS (Or.inr sz_v_2_) (allS (Or.inr sz_g_2_) (allS (Or.inr sz_s_2_) (allS (Or.inr sz_b_2_) all0)))))
      refine own_fin (fun tT kK => st23_.trans kK) ?_
      show own_Fin pP eE below _ (T23_.setTop (mkF mM 98 #[.val (.int p1), .val (.int p2), .val (.int p3), .val (.int p4), .val (.int p5), .val (.int p6), .val (.int z), .val (.int av), .val (.int bv), .val (.int kv), .val (.double (4787326403894837248 : UInt64)), .second, .val (.ref b1_), .unset] []))
      show own_Fin pP eE below _ (T23_.setTop (mkF mM 98 #[.val (.int p1), .val (.int p2), .val (.int p3), .val (.int p4), .val (.int p5), .val (.int p6), .val (.int z), .val (.int av), .val (.int bv), .val (.int kv), .val (.double (4787326403894837248 : UInt64)), .second, .val (.ref b1_), .unset] []))
      exact jp9_ sf _ _ _  X23_ rfl K23_ p23__1 p23__2 p23__3 p23__4 p23__5 p23__6 p23__7 p23__8 p23__9 p23__10 N23_
    · show own_Fin pP eE below _ (Tj8_.setTop (mkF mM 93 #[.val (.int p1), .val (.int p2), .val (.int p3), .val (.int p4), .val (.int p5), .val (.int p6), .val (.int z), .val (.int av), .val (.int bv), .val (.int kv), .val (.double (4787326403894837248 : UInt64)), .second, .val (.ref b1_), .unset] []))
      refine own_fin (b := Tj8_.setTop (mkF mM 95 #[.val (.int p1), .val (.int p2), .val (.int p3), .val (.int p4), .val (.int p5), .val (.int p6), .val (.int z), .val (.int av), .val (.int bv), .val (.int kv), .val (.double (4787326403894837248 : UInt64)), .second, .val (.ref b1_), .unset] [(.ref b1_)])) (fun tT kK => ?_) ?_
      · show Steps pP.tables eE below (Tj8_.setTop (mkF mM 93 #[.val (.int p1), .val (.int p2), .val (.int p3), .val (.int p4), .val (.int p5), .val (.int p6), .val (.int z), .val (.int av), .val (.int bv), .val (.int kv), .val (.double (4787326403894837248 : UInt64)), .second, .val (.ref b1_), .unset] [])) tT
        refine XS.aload Xj8_.here hx rfl (Jvm.hb hby at_93) rfl rfl ?_
        show Steps pP.tables eE below (Tj8_.setTop (mkF mM 95 #[.val (.int p1), .val (.int p2), .val (.int p3), .val (.int p4), .val (.int p5), .val (.int p6), .val (.int z), .val (.int av), .val (.int bv), .val (.int kv), .val (.double (4787326403894837248 : UInt64)), .second, .val (.ref b1_), .unset] [(.ref b1_)])) tT
        exact kK
      obtain ⟨cq25_, kq25_, q25_a, q25_b, q25_c⟩ := isOf hZ ej8_ fj8__0
      obtain ⟨_, _, ⟨T25_, L25_, k25_, n25_⟩, -, X25_, ⟨Lc25_, hQ25_, l25_, y25_, z25_⟩, st25_⟩ := Xj8_.virtualBack hx (y := (⟨"com/example/chains_to_rank/chainstorank/ranker/Scores", "clear", "()V"⟩ : MethodName)) (z := (⟨"com/example/chains_to_rank/chainstorank/ranker/Scores", "clear", "()V"⟩ : MethodName)) hown (mvT hZ (hw _ (List.mem_of_getElem? (i := 33) rfl))) (mvT hZ (hw _ (List.mem_of_getElem? (i := 34) rfl))) (notFace_of_selects (args := #[]) (mvT hZ (hw _ (List.mem_of_getElem? (i := 36) rfl)))) (mvT hZ (hw _ (List.mem_of_getElem? (i := 36) rfl))) (mvT hZ (hw _ (List.mem_of_getElem? (i := 35) rfl))) (by decide) (backOf (W := 0) (rm_clr1 lL Z a0 hw [] b1_ v_2_ g_2_ s_2_ b_2_ z vf gf sf bf hj8_ n0 (Nat.le_trans Z0 Kj8_.1) fj8__0 fj8__1 fj8__2 fj8__3 fj8__4 fj8__5 fj8__6 fj8__7 fj8__8 fj8__9 ge_b1_ ge_v_2_ ge_g_2_ ge_s_2_ ge_b_2_ p2__5 p2__6 p2__7 p2__8 p2__9 p2__10 (Ne.symm ne3_) (Ne.symm ne4_) (Ne.symm ne5_) (Ne.symm ne6_) hI hs0) hZ (hw _ (List.mem_of_getElem? (i := 37) rfl)) (hw _ (List.mem_of_getElem? (i := 4) rfl)) (by decide) (by decide)) q25_a q25_c (g := (mkF mM 95 #[.val (.int p1), .val (.int p2), .val (.int p3), .val (.int p4), .val (.int p5), .val (.int p6), .val (.int z), .val (.int av), .val (.int bv), .val (.int kv), .val (.double (4787326403894837248 : UInt64)), .second, .val (.ref b1_), .unset] [(.ref b1_)])) rfl (by rw [hml]; rfl) (Steps.refl _) (argsL := []) (rest := []) (lenOf own_pd9 rfl) rfl (by show 2 * 0 + _ ≤ _; exact Nat.le_of_eq rfl) (Jvm.hb hby at_95) (fun _ _ => ⟨rfl, ej8_, (by decide : 5 + 0 ≤ _), (by decide : 21 + 0 ≤ _)⟩)
      dsimp only [Pt.U, Pt.locs, Pt.cells, Pt.slots] at X25_ l25_ y25_ z25_ st25_ hQ25_
      subst l25_ y25_ z25_
      obtain ⟨rfl, N25_q, p25__0, p25__1, p25__2, p25__3, p25__4, p25__5, p25__6, p25__7, p25__8, p25__9, p25__10⟩ := hQ25_
      have N25_ := Fr.app Nj8_ N25_q
      have fc26_ := fj8__0.keep p25__0
      have K25_ := Kj8_.trans p25__0 (allS (Or.inr sz_b1_) (allS (Or.inr sz_v_2_) (allS (Or.inr sz_g_2_) (allS (Or.inr sz_s_2_) (allS (Or.inr sz_b_2_) all0)))))
      refine own_fin (fun tT kK => st25_.trans kK) ?_
      show own_Fin pP eE below _ (T25_.setTop (mkF mM 98 #[.val (.int p1), .val (.int p2), .val (.int p3), .val (.int p4), .val (.int p5), .val (.int p6), .val (.int z), .val (.int av), .val (.int bv), .val (.int kv), .val (.double (4787326403894837248 : UInt64)), .second, .val (.ref b1_), .unset] []))
      show own_Fin pP eE below _ (T25_.setTop (mkF mM 98 #[.val (.int p1), .val (.int p2), .val (.int p3), .val (.int p4), .val (.int p5), .val (.int p6), .val (.int z), .val (.int av), .val (.int bv), .val (.int kv), .val (.double (4787326403894837248 : UInt64)), .second, .val (.ref b1_), .unset] []))
      exact jp9_ sf _ _ _  X25_ rfl K25_ p25__1 p25__2 p25__3 p25__4 p25__5 p25__6 p25__7 p25__8 p25__9 p25__10 N25_
    · show own_Fin pP eE below _ (Tj8_.setTop (mkF mM 93 #[.val (.int p1), .val (.int p2), .val (.int p3), .val (.int p4), .val (.int p5), .val (.int p6), .val (.int z), .val (.int av), .val (.int bv), .val (.int kv), .val (.double (4787326403894837248 : UInt64)), .second, .val (.ref b1_), .unset] []))
      refine own_fin (b := Tj8_.setTop (mkF mM 95 #[.val (.int p1), .val (.int p2), .val (.int p3), .val (.int p4), .val (.int p5), .val (.int p6), .val (.int z), .val (.int av), .val (.int bv), .val (.int kv), .val (.double (4787326403894837248 : UInt64)), .second, .val (.ref b1_), .unset] [(.ref b1_)])) (fun tT kK => ?_) ?_
      · show Steps pP.tables eE below (Tj8_.setTop (mkF mM 93 #[.val (.int p1), .val (.int p2), .val (.int p3), .val (.int p4), .val (.int p5), .val (.int p6), .val (.int z), .val (.int av), .val (.int bv), .val (.int kv), .val (.double (4787326403894837248 : UInt64)), .second, .val (.ref b1_), .unset] [])) tT
        refine XS.aload Xj8_.here hx rfl (Jvm.hb hby at_93) rfl rfl ?_
        show Steps pP.tables eE below (Tj8_.setTop (mkF mM 95 #[.val (.int p1), .val (.int p2), .val (.int p3), .val (.int p4), .val (.int p5), .val (.int p6), .val (.int z), .val (.int av), .val (.int bv), .val (.int kv), .val (.double (4787326403894837248 : UInt64)), .second, .val (.ref b1_), .unset] [(.ref b1_)])) tT
        exact kK
      obtain ⟨cq27_, kq27_, q27_a, q27_b, q27_c⟩ := isOf hZ ej8_ fj8__0
      obtain ⟨_, _, ⟨T27_, L27_, k27_, n27_⟩, -, X27_, ⟨Lc27_, hQ27_, l27_, y27_, z27_⟩, st27_⟩ := Xj8_.virtualBack hx (y := (⟨"com/example/chains_to_rank/chainstorank/ranker/Scores", "clear", "()V"⟩ : MethodName)) (z := (⟨"com/example/chains_to_rank/chainstorank/ranker/Scores", "clear", "()V"⟩ : MethodName)) hown (mvT hZ (hw _ (List.mem_of_getElem? (i := 33) rfl))) (mvT hZ (hw _ (List.mem_of_getElem? (i := 34) rfl))) (notFace_of_selects (args := #[]) (mvT hZ (hw _ (List.mem_of_getElem? (i := 36) rfl)))) (mvT hZ (hw _ (List.mem_of_getElem? (i := 36) rfl))) (mvT hZ (hw _ (List.mem_of_getElem? (i := 35) rfl))) (by decide) (backOf (W := 0) (rm_clr2 lL Z a0 hw [] b1_ v_2_ g_2_ s_2_ b_2_ z vf gf sf bf hj8_ n0 (Nat.le_trans Z0 Kj8_.1) fj8__0 fj8__1 fj8__2 fj8__3 fj8__4 fj8__5 fj8__6 fj8__7 fj8__8 fj8__9 ge_b1_ ge_v_2_ ge_g_2_ ge_s_2_ ge_b_2_ p2__5 p2__6 p2__7 p2__8 p2__9 p2__10 (Ne.symm ne3_) (Ne.symm ne4_) (Ne.symm ne5_) (Ne.symm ne6_) hI hs0 hs1) hZ (hw _ (List.mem_of_getElem? (i := 37) rfl)) (hw _ (List.mem_of_getElem? (i := 4) rfl)) (by decide) (by decide)) q27_a q27_c (g := (mkF mM 95 #[.val (.int p1), .val (.int p2), .val (.int p3), .val (.int p4), .val (.int p5), .val (.int p6), .val (.int z), .val (.int av), .val (.int bv), .val (.int kv), .val (.double (4787326403894837248 : UInt64)), .second, .val (.ref b1_), .unset] [(.ref b1_)])) rfl (by rw [hml]; rfl) (Steps.refl _) (argsL := []) (rest := []) (lenOf own_pd9 rfl) rfl (by show 2 * 0 + _ ≤ _; exact Nat.le_of_eq rfl) (Jvm.hb hby at_95) (fun _ _ => ⟨rfl, ej8_, (by decide : 5 + 0 ≤ _), (by decide : 21 + 0 ≤ _)⟩)
      dsimp only [Pt.U, Pt.locs, Pt.cells, Pt.slots] at X27_ l27_ y27_ z27_ st27_ hQ27_
      subst l27_ y27_ z27_
      obtain ⟨rfl, N27_q, p27__0, p27__1, p27__2, p27__3, p27__4, p27__5, p27__6, p27__7, p27__8, p27__9, p27__10⟩ := hQ27_
      have N27_ := Fr.app Nj8_ N27_q
      have fc28_ := fj8__0.keep p27__0
      have K27_ := Kj8_.trans p27__0 (allS (Or.inr sz_b1_) (allS (Or.inr sz_v_2_) (allS (Or.inr sz_g_2_) (allS (Or.inr sz_s_2_) (allS (Or.inr sz_b_2_) all0)))))
      refine own_fin (fun tT kK => st27_.trans kK) ?_
      show own_Fin pP eE below _ (T27_.setTop (mkF mM 98 #[.val (.int p1), .val (.int p2), .val (.int p3), .val (.int p4), .val (.int p5), .val (.int p6), .val (.int z), .val (.int av), .val (.int bv), .val (.int kv), .val (.double (4787326403894837248 : UInt64)), .second, .val (.ref b1_), .unset] []))
      show own_Fin pP eE below _ (T27_.setTop (mkF mM 98 #[.val (.int p1), .val (.int p2), .val (.int p3), .val (.int p4), .val (.int p5), .val (.int p6), .val (.int z), .val (.int av), .val (.int bv), .val (.int kv), .val (.double (4787326403894837248 : UInt64)), .second, .val (.ref b1_), .unset] []))
      exact jp9_ sf _ _ _  X27_ rfl K27_ p27__1 p27__2 p27__3 p27__4 p27__5 p27__6 p27__7 p27__8 p27__9 p27__10 N27_
  rcases hk4 with rfl | rfl | rfl | rfl
  · show own_Fin pP eE below _ (T2_.setTop (mkF mM 46 #[.val (.int p1), .val (.int p2), .val (.int p3), .val (.int p4), .val (.int p5), .val (.int p6), .val (.int z), .val (.int av), .val (.int bv), .val (.int (0 : Int32)), .val (.double (4787326403894837248 : UInt64)), .second, .val (.ref b1_), .unset] []))
    refine own_fin (b := T2_.setTop (mkF mM 93 #[.val (.int p1), .val (.int p2), .val (.int p3), .val (.int p4), .val (.int p5), .val (.int p6), .val (.int z), .val (.int av), .val (.int bv), .val (.int (0 : Int32)), .val (.double (4787326403894837248 : UInt64)), .second, .val (.ref b1_), .unset] [])) (fun tT kK => ?_) ?_
    · show Steps pP.tables eE below (T2_.setTop (mkF mM 46 #[.val (.int p1), .val (.int p2), .val (.int p3), .val (.int p4), .val (.int p5), .val (.int p6), .val (.int z), .val (.int av), .val (.int bv), .val (.int (0 : Int32)), .val (.double (4787326403894837248 : UInt64)), .second, .val (.ref b1_), .unset] [])) tT
      refine XS.iload X2_.here hx rfl (Jvm.hb hby at_46) rfl ?_
      show Steps pP.tables eE below (T2_.setTop (mkF mM 48 #[.val (.int p1), .val (.int p2), .val (.int p3), .val (.int p4), .val (.int p5), .val (.int p6), .val (.int z), .val (.int av), .val (.int bv), .val (.int (0 : Int32)), .val (.double (4787326403894837248 : UInt64)), .second, .val (.ref b1_), .unset] [(.int (0 : Int32))])) tT
      refine XS.iconst X2_.here hx rfl (Jvm.hb hby at_48) ?_
      show Steps pP.tables eE below (T2_.setTop (mkF mM 49 #[.val (.int p1), .val (.int p2), .val (.int p3), .val (.int p4), .val (.int p5), .val (.int p6), .val (.int z), .val (.int av), .val (.int bv), .val (.int (0 : Int32)), .val (.double (4787326403894837248 : UInt64)), .second, .val (.ref b1_), .unset] [(.int (1 : Int32)), (.int (0 : Int32))])) tT
      refine XS.icmpYes X2_.here hx rfl (pc0 := 49) (pc' := 61) rfl (Jvm.hb hby at_49) rfl (tlt ((by decide) : (0 : Int32) < (1 : Int32))).1 (by decide) (by decide) ?_
      show Steps pP.tables eE below (T2_.setTop (mkF mM 61 #[.val (.int p1), .val (.int p2), .val (.int p3), .val (.int p4), .val (.int p5), .val (.int p6), .val (.int z), .val (.int av), .val (.int bv), .val (.int (0 : Int32)), .val (.double (4787326403894837248 : UInt64)), .second, .val (.ref b1_), .unset] [])) tT
      refine XS.iload X2_.here hx rfl (Jvm.hb hby at_61) rfl ?_
      show Steps pP.tables eE below (T2_.setTop (mkF mM 63 #[.val (.int p1), .val (.int p2), .val (.int p3), .val (.int p4), .val (.int p5), .val (.int p6), .val (.int z), .val (.int av), .val (.int bv), .val (.int (0 : Int32)), .val (.double (4787326403894837248 : UInt64)), .second, .val (.ref b1_), .unset] [(.int (0 : Int32))])) tT
      refine XS.iconst X2_.here hx rfl (Jvm.hb hby at_63) ?_
      show Steps pP.tables eE below (T2_.setTop (mkF mM 64 #[.val (.int p1), .val (.int p2), .val (.int p3), .val (.int p4), .val (.int p5), .val (.int p6), .val (.int z), .val (.int av), .val (.int bv), .val (.int (0 : Int32)), .val (.double (4787326403894837248 : UInt64)), .second, .val (.ref b1_), .unset] [(.int (2 : Int32)), (.int (0 : Int32))])) tT
      refine XS.icmpYes X2_.here hx rfl (pc0 := 64) (pc' := 77) rfl (Jvm.hb hby at_64) rfl (tlt ((by decide) : (0 : Int32) < (2 : Int32))).1 (by decide) (by decide) ?_
      show Steps pP.tables eE below (T2_.setTop (mkF mM 77 #[.val (.int p1), .val (.int p2), .val (.int p3), .val (.int p4), .val (.int p5), .val (.int p6), .val (.int z), .val (.int av), .val (.int bv), .val (.int (0 : Int32)), .val (.double (4787326403894837248 : UInt64)), .second, .val (.ref b1_), .unset] [])) tT
      refine XS.iload X2_.here hx rfl (Jvm.hb hby at_77) rfl ?_
      show Steps pP.tables eE below (T2_.setTop (mkF mM 79 #[.val (.int p1), .val (.int p2), .val (.int p3), .val (.int p4), .val (.int p5), .val (.int p6), .val (.int z), .val (.int av), .val (.int bv), .val (.int (0 : Int32)), .val (.double (4787326403894837248 : UInt64)), .second, .val (.ref b1_), .unset] [(.int (0 : Int32))])) tT
      refine XS.iconst X2_.here hx rfl (Jvm.hb hby at_79) ?_
      show Steps pP.tables eE below (T2_.setTop (mkF mM 80 #[.val (.int p1), .val (.int p2), .val (.int p3), .val (.int p4), .val (.int p5), .val (.int p6), .val (.int z), .val (.int av), .val (.int bv), .val (.int (0 : Int32)), .val (.double (4787326403894837248 : UInt64)), .second, .val (.ref b1_), .unset] [(.int (3 : Int32)), (.int (0 : Int32))])) tT
      refine XS.icmpYes X2_.here hx rfl (pc0 := 80) (pc' := 93) rfl (Jvm.hb hby at_80) rfl (tlt ((by decide) : (0 : Int32) < (3 : Int32))).1 (by decide) (by decide) ?_
      show Steps pP.tables eE below (T2_.setTop (mkF mM 93 #[.val (.int p1), .val (.int p2), .val (.int p3), .val (.int p4), .val (.int p5), .val (.int p6), .val (.int z), .val (.int av), .val (.int bv), .val (.int (0 : Int32)), .val (.double (4787326403894837248 : UInt64)), .second, .val (.ref b1_), .unset] [])) tT
      exact kK
    show own_Fin pP eE below _ (T2_.setTop (mkF mM 93 #[.val (.int p1), .val (.int p2), .val (.int p3), .val (.int p4), .val (.int p5), .val (.int p6), .val (.int z), .val (.int av), .val (.int bv), .val (.int (0 : Int32)), .val (.double (4787326403894837248 : UInt64)), .second, .val (.ref b1_), .unset] []))
    exact jp8_ (0 : Int32) (fun _ => (0 : Int32)) (fun _ => (0 : Int32)) (fun _ => (0 : UInt64)) (fun _ => (0 : UInt64)) _ _ _ (own_inv0 z _) X2_ rfl K2_ p2__11 p2__12 p2__13 p2__14 p2__15 p2__16 p2__17 p2__18 p2__19 p2__20 N2_
  · show own_Fin pP eE below _ (T2_.setTop (mkF mM 46 #[.val (.int p1), .val (.int p2), .val (.int p3), .val (.int p4), .val (.int p5), .val (.int p6), .val (.int z), .val (.int av), .val (.int bv), .val (.int (1 : Int32)), .val (.double (4787326403894837248 : UInt64)), .second, .val (.ref b1_), .unset] []))
    refine own_fin (b := T2_.setTop (mkF mM 58 #[.val (.int p1), .val (.int p2), .val (.int p3), .val (.int p4), .val (.int p5), .val (.int p6), .val (.int z), .val (.int av), .val (.int bv), .val (.int (1 : Int32)), .val (.double (4787326403894837248 : UInt64)), .second, .val (.ref b1_), .unset] [(.double (4787326403894837248 : UInt64)), (.int av), (.ref b1_)])) (fun tT kK => ?_) ?_
    · show Steps pP.tables eE below (T2_.setTop (mkF mM 46 #[.val (.int p1), .val (.int p2), .val (.int p3), .val (.int p4), .val (.int p5), .val (.int p6), .val (.int z), .val (.int av), .val (.int bv), .val (.int (1 : Int32)), .val (.double (4787326403894837248 : UInt64)), .second, .val (.ref b1_), .unset] [])) tT
      refine XS.iload X2_.here hx rfl (Jvm.hb hby at_46) rfl ?_
      show Steps pP.tables eE below (T2_.setTop (mkF mM 48 #[.val (.int p1), .val (.int p2), .val (.int p3), .val (.int p4), .val (.int p5), .val (.int p6), .val (.int z), .val (.int av), .val (.int bv), .val (.int (1 : Int32)), .val (.double (4787326403894837248 : UInt64)), .second, .val (.ref b1_), .unset] [(.int (1 : Int32))])) tT
      refine XS.iconst X2_.here hx rfl (Jvm.hb hby at_48) ?_
      show Steps pP.tables eE below (T2_.setTop (mkF mM 49 #[.val (.int p1), .val (.int p2), .val (.int p3), .val (.int p4), .val (.int p5), .val (.int p6), .val (.int z), .val (.int av), .val (.int bv), .val (.int (1 : Int32)), .val (.double (4787326403894837248 : UInt64)), .second, .val (.ref b1_), .unset] [(.int (1 : Int32)), (.int (1 : Int32))])) tT
      refine XS.icmpNo X2_.here hx rfl (Jvm.hb hby at_49) rfl (flt ((by decide) : ¬ ((1 : Int32) < (1 : Int32)))).1 ?_
      show Steps pP.tables eE below (T2_.setTop (mkF mM 52 #[.val (.int p1), .val (.int p2), .val (.int p3), .val (.int p4), .val (.int p5), .val (.int p6), .val (.int z), .val (.int av), .val (.int bv), .val (.int (1 : Int32)), .val (.double (4787326403894837248 : UInt64)), .second, .val (.ref b1_), .unset] [])) tT
      refine XS.aload X2_.here hx rfl (Jvm.hb hby at_52) rfl rfl ?_
      show Steps pP.tables eE below (T2_.setTop (mkF mM 54 #[.val (.int p1), .val (.int p2), .val (.int p3), .val (.int p4), .val (.int p5), .val (.int p6), .val (.int z), .val (.int av), .val (.int bv), .val (.int (1 : Int32)), .val (.double (4787326403894837248 : UInt64)), .second, .val (.ref b1_), .unset] [(.ref b1_)])) tT
      refine XS.iload X2_.here hx rfl (Jvm.hb hby at_54) rfl ?_
      show Steps pP.tables eE below (T2_.setTop (mkF mM 56 #[.val (.int p1), .val (.int p2), .val (.int p3), .val (.int p4), .val (.int p5), .val (.int p6), .val (.int z), .val (.int av), .val (.int bv), .val (.int (1 : Int32)), .val (.double (4787326403894837248 : UInt64)), .second, .val (.ref b1_), .unset] [(.int av), (.ref b1_)])) tT
      refine XS.dload X2_.here hx rfl (Jvm.hb hby at_56) rfl ?_
      show Steps pP.tables eE below (T2_.setTop (mkF mM 58 #[.val (.int p1), .val (.int p2), .val (.int p3), .val (.int p4), .val (.int p5), .val (.int p6), .val (.int z), .val (.int av), .val (.int bv), .val (.int (1 : Int32)), .val (.double (4787326403894837248 : UInt64)), .second, .val (.ref b1_), .unset] [(.double (4787326403894837248 : UInt64)), (.int av), (.ref b1_)])) tT
      exact kK
    obtain ⟨cq29_, kq29_, q29_a, q29_b, q29_c⟩ := isOf hZ rfl p2__11
    obtain ⟨_, _, ⟨T29_, L29_, k29_, n29_⟩, -, X29_, ⟨Lc29_, hQ29_, l29_, y29_, z29_⟩, st29_⟩ := X2_.virtualBack hx (y := (⟨"com/example/chains_to_rank/chainstorank/ranker/Scores", "add", "(ID)V"⟩ : MethodName)) (z := (⟨"com/example/chains_to_rank/chainstorank/ranker/Scores", "add", "(ID)V"⟩ : MethodName)) hown (mvT hZ (hw _ (List.mem_of_getElem? (i := 22) rfl))) (mvT hZ (hw _ (List.mem_of_getElem? (i := 23) rfl))) (notFace_of_selects (args := #[]) (mvT hZ (hw _ (List.mem_of_getElem? (i := 25) rfl)))) (mvT hZ (hw _ (List.mem_of_getElem? (i := 25) rfl))) (mvT hZ (hw _ (List.mem_of_getElem? (i := 24) rfl))) (by decide) (backOf (W := 0) (rm_add1 lL Z a0 hw [] b1_ v_2_ g_2_ s_2_ b_2_ z av (4787326403894837248 : UInt64) (0 : Int32) (FP.dadd ((fun _ => (0 : UInt64)) av) (4787326403894837248 : UInt64)) (FP.dadd ((fun _ => (0 : UInt64)) av) (own_ab (4787326403894837248 : UInt64))) (fun _ => (0 : UInt64)) (fun _ => (0 : UInt64)) (fun _ => (0 : Int32)) (fun _ => (0 : Int32)) T2_.heap n0 (Nat.le_trans Z0 K2_.1) p2__11 p2__12 p2__13 p2__14 p2__15 p2__16 p2__17 p2__18 p2__19 p2__20 ge_b1_ ge_v_2_ ge_g_2_ ge_s_2_ ge_b_2_ p2__5 p2__6 p2__7 p2__8 p2__9 p2__10 (Ne.symm ne3_) (Ne.symm ne4_) (Ne.symm ne5_) (Ne.symm ne6_) hai own_bigf.noNaN rfl (dadd_out own_zf.noNaN own_bigf) rfl (dadd_out own_zf.noNaN (own_abf own_bigf)) (own_0in hzb) rfl) hZ (hw _ (List.mem_of_getElem? (i := 26) rfl)) (hw _ (List.mem_of_getElem? (i := 4) rfl)) (by decide) (by decide)) q29_a q29_c (g := (mkF mM 58 #[.val (.int p1), .val (.int p2), .val (.int p3), .val (.int p4), .val (.int p5), .val (.int p6), .val (.int z), .val (.int av), .val (.int bv), .val (.int (1 : Int32)), .val (.double (4787326403894837248 : UInt64)), .second, .val (.ref b1_), .unset] [(.double (4787326403894837248 : UInt64)), (.int av), (.ref b1_)])) rfl (by rw [hml]; rfl) (Steps.refl _) (argsL := [(.int av), (.double (4787326403894837248 : UInt64))]) (rest := []) (lenOf own_pd4 rfl) rfl (by show 2 * 0 + _ ≤ _; exact Nat.le_of_eq rfl) (Jvm.hb hby at_58) (fun _ _ => ⟨rfl, rfl, (by decide : 5 + 0 ≤ _), (by decide : 21 + 0 ≤ _)⟩)
    dsimp only [Pt.U, Pt.locs, Pt.cells, Pt.slots] at X29_ l29_ y29_ z29_ st29_ hQ29_
    subst l29_ y29_ z29_
    obtain ⟨rfl, N29_q, p29__0, p29__1, p29__2, p29__3, p29__4, p29__5, p29__6, p29__7, p29__8, p29__9, p29__10⟩ := hQ29_
    have N29_ := Fr.app N2_ N29_q
    have fc30_ := p2__11.keep p29__0
    have K29_ := K2_.trans p29__0 (allS (Or.inr sz_b1_) (allS (Or.inr sz_v_2_) (allS (Or.inr sz_g_2_) (allS (Or.inr sz_s_2_) (allS (Or.inr sz_b_2_) all0)))))
    refine own_fin (fun tT kK => st29_.trans kK) ?_
    show own_Fin pP eE below _ (T29_.setTop (mkF mM 61 #[.val (.int p1), .val (.int p2), .val (.int p3), .val (.int p4), .val (.int p5), .val (.int p6), .val (.int z), .val (.int av), .val (.int bv), .val (.int (1 : Int32)), .val (.double (4787326403894837248 : UInt64)), .second, .val (.ref b1_), .unset] []))
    refine own_fin (b := T29_.setTop (mkF mM 93 #[.val (.int p1), .val (.int p2), .val (.int p3), .val (.int p4), .val (.int p5), .val (.int p6), .val (.int z), .val (.int av), .val (.int bv), .val (.int (1 : Int32)), .val (.double (4787326403894837248 : UInt64)), .second, .val (.ref b1_), .unset] [])) (fun tT kK => ?_) ?_
    · show Steps pP.tables eE below (T29_.setTop (mkF mM 61 #[.val (.int p1), .val (.int p2), .val (.int p3), .val (.int p4), .val (.int p5), .val (.int p6), .val (.int z), .val (.int av), .val (.int bv), .val (.int (1 : Int32)), .val (.double (4787326403894837248 : UInt64)), .second, .val (.ref b1_), .unset] [])) tT
      refine XS.iload X29_.here hx rfl (Jvm.hb hby at_61) rfl ?_
      show Steps pP.tables eE below (T29_.setTop (mkF mM 63 #[.val (.int p1), .val (.int p2), .val (.int p3), .val (.int p4), .val (.int p5), .val (.int p6), .val (.int z), .val (.int av), .val (.int bv), .val (.int (1 : Int32)), .val (.double (4787326403894837248 : UInt64)), .second, .val (.ref b1_), .unset] [(.int (1 : Int32))])) tT
      refine XS.iconst X29_.here hx rfl (Jvm.hb hby at_63) ?_
      show Steps pP.tables eE below (T29_.setTop (mkF mM 64 #[.val (.int p1), .val (.int p2), .val (.int p3), .val (.int p4), .val (.int p5), .val (.int p6), .val (.int z), .val (.int av), .val (.int bv), .val (.int (1 : Int32)), .val (.double (4787326403894837248 : UInt64)), .second, .val (.ref b1_), .unset] [(.int (2 : Int32)), (.int (1 : Int32))])) tT
      refine XS.icmpYes X29_.here hx rfl (pc0 := 64) (pc' := 77) rfl (Jvm.hb hby at_64) rfl (tlt ((by decide) : (1 : Int32) < (2 : Int32))).1 (by decide) (by decide) ?_
      show Steps pP.tables eE below (T29_.setTop (mkF mM 77 #[.val (.int p1), .val (.int p2), .val (.int p3), .val (.int p4), .val (.int p5), .val (.int p6), .val (.int z), .val (.int av), .val (.int bv), .val (.int (1 : Int32)), .val (.double (4787326403894837248 : UInt64)), .second, .val (.ref b1_), .unset] [])) tT
      refine XS.iload X29_.here hx rfl (Jvm.hb hby at_77) rfl ?_
      show Steps pP.tables eE below (T29_.setTop (mkF mM 79 #[.val (.int p1), .val (.int p2), .val (.int p3), .val (.int p4), .val (.int p5), .val (.int p6), .val (.int z), .val (.int av), .val (.int bv), .val (.int (1 : Int32)), .val (.double (4787326403894837248 : UInt64)), .second, .val (.ref b1_), .unset] [(.int (1 : Int32))])) tT
      refine XS.iconst X29_.here hx rfl (Jvm.hb hby at_79) ?_
      show Steps pP.tables eE below (T29_.setTop (mkF mM 80 #[.val (.int p1), .val (.int p2), .val (.int p3), .val (.int p4), .val (.int p5), .val (.int p6), .val (.int z), .val (.int av), .val (.int bv), .val (.int (1 : Int32)), .val (.double (4787326403894837248 : UInt64)), .second, .val (.ref b1_), .unset] [(.int (3 : Int32)), (.int (1 : Int32))])) tT
      refine XS.icmpYes X29_.here hx rfl (pc0 := 80) (pc' := 93) rfl (Jvm.hb hby at_80) rfl (tlt ((by decide) : (1 : Int32) < (3 : Int32))).1 (by decide) (by decide) ?_
      show Steps pP.tables eE below (T29_.setTop (mkF mM 93 #[.val (.int p1), .val (.int p2), .val (.int p3), .val (.int p4), .val (.int p5), .val (.int p6), .val (.int z), .val (.int av), .val (.int bv), .val (.int (1 : Int32)), .val (.double (4787326403894837248 : UInt64)), .second, .val (.ref b1_), .unset] [])) tT
      exact kK
    show own_Fin pP eE below _ (T29_.setTop (mkF mM 93 #[.val (.int p1), .val (.int p2), .val (.int p3), .val (.int p4), .val (.int p5), .val (.int p6), .val (.int z), .val (.int av), .val (.int bv), .val (.int (1 : Int32)), .val (.double (4787326403894837248 : UInt64)), .second, .val (.ref b1_), .unset] []))
    exact jp8_ ((0 : Int32) + (1 : Int32)) (own_up (fun _ => (0 : Int32)) (0 : Int32) av) (own_up (fun _ => (0 : Int32)) av (1 : Int32)) (own_upD (fun _ => (0 : UInt64)) av (FP.dadd ((fun _ => (0 : UInt64)) av) (4787326403894837248 : UInt64))) (own_upD (fun _ => (0 : UInt64)) av (FP.dadd ((fun _ => (0 : UInt64)) av) (own_ab (4787326403894837248 : UInt64)))) _ _ _ (own_inv1 hai (own_0in hzb)) X29_ rfl K29_ p29__1 p29__2 p29__3 p29__4 p29__5 p29__6 p29__7 p29__8 p29__9 p29__10 N29_
  · show own_Fin pP eE below _ (T2_.setTop (mkF mM 46 #[.val (.int p1), .val (.int p2), .val (.int p3), .val (.int p4), .val (.int p5), .val (.int p6), .val (.int z), .val (.int av), .val (.int bv), .val (.int (2 : Int32)), .val (.double (4787326403894837248 : UInt64)), .second, .val (.ref b1_), .unset] []))
    refine own_fin (b := T2_.setTop (mkF mM 58 #[.val (.int p1), .val (.int p2), .val (.int p3), .val (.int p4), .val (.int p5), .val (.int p6), .val (.int z), .val (.int av), .val (.int bv), .val (.int (2 : Int32)), .val (.double (4787326403894837248 : UInt64)), .second, .val (.ref b1_), .unset] [(.double (4787326403894837248 : UInt64)), (.int av), (.ref b1_)])) (fun tT kK => ?_) ?_
    · show Steps pP.tables eE below (T2_.setTop (mkF mM 46 #[.val (.int p1), .val (.int p2), .val (.int p3), .val (.int p4), .val (.int p5), .val (.int p6), .val (.int z), .val (.int av), .val (.int bv), .val (.int (2 : Int32)), .val (.double (4787326403894837248 : UInt64)), .second, .val (.ref b1_), .unset] [])) tT
      refine XS.iload X2_.here hx rfl (Jvm.hb hby at_46) rfl ?_
      show Steps pP.tables eE below (T2_.setTop (mkF mM 48 #[.val (.int p1), .val (.int p2), .val (.int p3), .val (.int p4), .val (.int p5), .val (.int p6), .val (.int z), .val (.int av), .val (.int bv), .val (.int (2 : Int32)), .val (.double (4787326403894837248 : UInt64)), .second, .val (.ref b1_), .unset] [(.int (2 : Int32))])) tT
      refine XS.iconst X2_.here hx rfl (Jvm.hb hby at_48) ?_
      show Steps pP.tables eE below (T2_.setTop (mkF mM 49 #[.val (.int p1), .val (.int p2), .val (.int p3), .val (.int p4), .val (.int p5), .val (.int p6), .val (.int z), .val (.int av), .val (.int bv), .val (.int (2 : Int32)), .val (.double (4787326403894837248 : UInt64)), .second, .val (.ref b1_), .unset] [(.int (1 : Int32)), (.int (2 : Int32))])) tT
      refine XS.icmpNo X2_.here hx rfl (Jvm.hb hby at_49) rfl (flt ((by decide) : ¬ ((2 : Int32) < (1 : Int32)))).1 ?_
      show Steps pP.tables eE below (T2_.setTop (mkF mM 52 #[.val (.int p1), .val (.int p2), .val (.int p3), .val (.int p4), .val (.int p5), .val (.int p6), .val (.int z), .val (.int av), .val (.int bv), .val (.int (2 : Int32)), .val (.double (4787326403894837248 : UInt64)), .second, .val (.ref b1_), .unset] [])) tT
      refine XS.aload X2_.here hx rfl (Jvm.hb hby at_52) rfl rfl ?_
      show Steps pP.tables eE below (T2_.setTop (mkF mM 54 #[.val (.int p1), .val (.int p2), .val (.int p3), .val (.int p4), .val (.int p5), .val (.int p6), .val (.int z), .val (.int av), .val (.int bv), .val (.int (2 : Int32)), .val (.double (4787326403894837248 : UInt64)), .second, .val (.ref b1_), .unset] [(.ref b1_)])) tT
      refine XS.iload X2_.here hx rfl (Jvm.hb hby at_54) rfl ?_
      show Steps pP.tables eE below (T2_.setTop (mkF mM 56 #[.val (.int p1), .val (.int p2), .val (.int p3), .val (.int p4), .val (.int p5), .val (.int p6), .val (.int z), .val (.int av), .val (.int bv), .val (.int (2 : Int32)), .val (.double (4787326403894837248 : UInt64)), .second, .val (.ref b1_), .unset] [(.int av), (.ref b1_)])) tT
      refine XS.dload X2_.here hx rfl (Jvm.hb hby at_56) rfl ?_
      show Steps pP.tables eE below (T2_.setTop (mkF mM 58 #[.val (.int p1), .val (.int p2), .val (.int p3), .val (.int p4), .val (.int p5), .val (.int p6), .val (.int z), .val (.int av), .val (.int bv), .val (.int (2 : Int32)), .val (.double (4787326403894837248 : UInt64)), .second, .val (.ref b1_), .unset] [(.double (4787326403894837248 : UInt64)), (.int av), (.ref b1_)])) tT
      exact kK
    obtain ⟨cq31_, kq31_, q31_a, q31_b, q31_c⟩ := isOf hZ rfl p2__11
    obtain ⟨_, _, ⟨T31_, L31_, k31_, n31_⟩, -, X31_, ⟨Lc31_, hQ31_, l31_, y31_, z31_⟩, st31_⟩ := X2_.virtualBack hx (y := (⟨"com/example/chains_to_rank/chainstorank/ranker/Scores", "add", "(ID)V"⟩ : MethodName)) (z := (⟨"com/example/chains_to_rank/chainstorank/ranker/Scores", "add", "(ID)V"⟩ : MethodName)) hown (mvT hZ (hw _ (List.mem_of_getElem? (i := 22) rfl))) (mvT hZ (hw _ (List.mem_of_getElem? (i := 23) rfl))) (notFace_of_selects (args := #[]) (mvT hZ (hw _ (List.mem_of_getElem? (i := 25) rfl)))) (mvT hZ (hw _ (List.mem_of_getElem? (i := 25) rfl))) (mvT hZ (hw _ (List.mem_of_getElem? (i := 24) rfl))) (by decide) (backOf (W := 0) (rm_add1 lL Z a0 hw [] b1_ v_2_ g_2_ s_2_ b_2_ z av (4787326403894837248 : UInt64) (0 : Int32) (FP.dadd ((fun _ => (0 : UInt64)) av) (4787326403894837248 : UInt64)) (FP.dadd ((fun _ => (0 : UInt64)) av) (own_ab (4787326403894837248 : UInt64))) (fun _ => (0 : UInt64)) (fun _ => (0 : UInt64)) (fun _ => (0 : Int32)) (fun _ => (0 : Int32)) T2_.heap n0 (Nat.le_trans Z0 K2_.1) p2__11 p2__12 p2__13 p2__14 p2__15 p2__16 p2__17 p2__18 p2__19 p2__20 ge_b1_ ge_v_2_ ge_g_2_ ge_s_2_ ge_b_2_ p2__5 p2__6 p2__7 p2__8 p2__9 p2__10 (Ne.symm ne3_) (Ne.symm ne4_) (Ne.symm ne5_) (Ne.symm ne6_) hai own_bigf.noNaN rfl (dadd_out own_zf.noNaN own_bigf) rfl (dadd_out own_zf.noNaN (own_abf own_bigf)) (own_0in hzb) rfl) hZ (hw _ (List.mem_of_getElem? (i := 26) rfl)) (hw _ (List.mem_of_getElem? (i := 4) rfl)) (by decide) (by decide)) q31_a q31_c (g := (mkF mM 58 #[.val (.int p1), .val (.int p2), .val (.int p3), .val (.int p4), .val (.int p5), .val (.int p6), .val (.int z), .val (.int av), .val (.int bv), .val (.int (2 : Int32)), .val (.double (4787326403894837248 : UInt64)), .second, .val (.ref b1_), .unset] [(.double (4787326403894837248 : UInt64)), (.int av), (.ref b1_)])) rfl (by rw [hml]; rfl) (Steps.refl _) (argsL := [(.int av), (.double (4787326403894837248 : UInt64))]) (rest := []) (lenOf own_pd4 rfl) rfl (by show 2 * 0 + _ ≤ _; exact Nat.le_of_eq rfl) (Jvm.hb hby at_58) (fun _ _ => ⟨rfl, rfl, (by decide : 5 + 0 ≤ _), (by decide : 21 + 0 ≤ _)⟩)
    dsimp only [Pt.U, Pt.locs, Pt.cells, Pt.slots] at X31_ l31_ y31_ z31_ st31_ hQ31_
    subst l31_ y31_ z31_
    obtain ⟨rfl, N31_q, p31__0, p31__1, p31__2, p31__3, p31__4, p31__5, p31__6, p31__7, p31__8, p31__9, p31__10⟩ := hQ31_
    have N31_ := Fr.app N2_ N31_q
    have fc32_ := p2__11.keep p31__0
    have K31_ := K2_.trans p31__0 (allS (Or.inr sz_b1_) (allS (Or.inr sz_v_2_) (allS (Or.inr sz_g_2_) (allS (Or.inr sz_s_2_) (allS (Or.inr sz_b_2_) all0)))))
    refine own_fin (fun tT kK => st31_.trans kK) ?_
    show own_Fin pP eE below _ (T31_.setTop (mkF mM 61 #[.val (.int p1), .val (.int p2), .val (.int p3), .val (.int p4), .val (.int p5), .val (.int p6), .val (.int z), .val (.int av), .val (.int bv), .val (.int (2 : Int32)), .val (.double (4787326403894837248 : UInt64)), .second, .val (.ref b1_), .unset] []))
    refine own_fin (b := T31_.setTop (mkF mM 74 #[.val (.int p1), .val (.int p2), .val (.int p3), .val (.int p4), .val (.int p5), .val (.int p6), .val (.int z), .val (.int av), .val (.int bv), .val (.int (2 : Int32)), .val (.double (4787326403894837248 : UInt64)), .second, .val (.ref b1_), .unset] [(.double (FP.i2d p5)), (.int bv), (.ref b1_)])) (fun tT kK => ?_) ?_
    · show Steps pP.tables eE below (T31_.setTop (mkF mM 61 #[.val (.int p1), .val (.int p2), .val (.int p3), .val (.int p4), .val (.int p5), .val (.int p6), .val (.int z), .val (.int av), .val (.int bv), .val (.int (2 : Int32)), .val (.double (4787326403894837248 : UInt64)), .second, .val (.ref b1_), .unset] [])) tT
      refine XS.iload X31_.here hx rfl (Jvm.hb hby at_61) rfl ?_
      show Steps pP.tables eE below (T31_.setTop (mkF mM 63 #[.val (.int p1), .val (.int p2), .val (.int p3), .val (.int p4), .val (.int p5), .val (.int p6), .val (.int z), .val (.int av), .val (.int bv), .val (.int (2 : Int32)), .val (.double (4787326403894837248 : UInt64)), .second, .val (.ref b1_), .unset] [(.int (2 : Int32))])) tT
      refine XS.iconst X31_.here hx rfl (Jvm.hb hby at_63) ?_
      show Steps pP.tables eE below (T31_.setTop (mkF mM 64 #[.val (.int p1), .val (.int p2), .val (.int p3), .val (.int p4), .val (.int p5), .val (.int p6), .val (.int z), .val (.int av), .val (.int bv), .val (.int (2 : Int32)), .val (.double (4787326403894837248 : UInt64)), .second, .val (.ref b1_), .unset] [(.int (2 : Int32)), (.int (2 : Int32))])) tT
      refine XS.icmpNo X31_.here hx rfl (Jvm.hb hby at_64) rfl (flt ((by decide) : ¬ ((2 : Int32) < (2 : Int32)))).1 ?_
      show Steps pP.tables eE below (T31_.setTop (mkF mM 67 #[.val (.int p1), .val (.int p2), .val (.int p3), .val (.int p4), .val (.int p5), .val (.int p6), .val (.int z), .val (.int av), .val (.int bv), .val (.int (2 : Int32)), .val (.double (4787326403894837248 : UInt64)), .second, .val (.ref b1_), .unset] [])) tT
      refine XS.aload X31_.here hx rfl (Jvm.hb hby at_67) rfl rfl ?_
      show Steps pP.tables eE below (T31_.setTop (mkF mM 69 #[.val (.int p1), .val (.int p2), .val (.int p3), .val (.int p4), .val (.int p5), .val (.int p6), .val (.int z), .val (.int av), .val (.int bv), .val (.int (2 : Int32)), .val (.double (4787326403894837248 : UInt64)), .second, .val (.ref b1_), .unset] [(.ref b1_)])) tT
      refine XS.iload X31_.here hx rfl (Jvm.hb hby at_69) rfl ?_
      show Steps pP.tables eE below (T31_.setTop (mkF mM 71 #[.val (.int p1), .val (.int p2), .val (.int p3), .val (.int p4), .val (.int p5), .val (.int p6), .val (.int z), .val (.int av), .val (.int bv), .val (.int (2 : Int32)), .val (.double (4787326403894837248 : UInt64)), .second, .val (.ref b1_), .unset] [(.int bv), (.ref b1_)])) tT
      refine XS.iload X31_.here hx rfl (Jvm.hb hby at_71) rfl ?_
      show Steps pP.tables eE below (T31_.setTop (mkF mM 73 #[.val (.int p1), .val (.int p2), .val (.int p3), .val (.int p4), .val (.int p5), .val (.int p6), .val (.int z), .val (.int av), .val (.int bv), .val (.int (2 : Int32)), .val (.double (4787326403894837248 : UInt64)), .second, .val (.ref b1_), .unset] [(.int p5), (.int bv), (.ref b1_)])) tT
      refine XS.i2dS X31_.here hx rfl (Jvm.hb hby at_73) rfl rfl ?_
      show Steps pP.tables eE below (T31_.setTop (mkF mM 74 #[.val (.int p1), .val (.int p2), .val (.int p3), .val (.int p4), .val (.int p5), .val (.int p6), .val (.int z), .val (.int av), .val (.int bv), .val (.int (2 : Int32)), .val (.double (4787326403894837248 : UInt64)), .second, .val (.ref b1_), .unset] [(.double (FP.i2d p5)), (.int bv), (.ref b1_)])) tT
      exact kK
    rcases Classical.em (bv = av) with rfl | hne
    · show own_Fin pP eE below _ (T31_.setTop (mkF mM 74 #[.val (.int p1), .val (.int p2), .val (.int p3), .val (.int p4), .val (.int p5), .val (.int p6), .val (.int z), .val (.int bv), .val (.int bv), .val (.int (2 : Int32)), .val (.double (4787326403894837248 : UInt64)), .second, .val (.ref b1_), .unset] [(.double (FP.i2d p5)), (.int bv), (.ref b1_)]))
      obtain ⟨cq33_, kq33_, q33_a, q33_b, q33_c⟩ := isOf hZ rfl p31__1
      obtain ⟨_, _, ⟨T33_, L33_, k33_, n33_⟩, -, X33_, ⟨Lc33_, hQ33_, l33_, y33_, z33_⟩, st33_⟩ := X31_.virtualBack hx (y := (⟨"com/example/chains_to_rank/chainstorank/ranker/Scores", "add", "(ID)V"⟩ : MethodName)) (z := (⟨"com/example/chains_to_rank/chainstorank/ranker/Scores", "add", "(ID)V"⟩ : MethodName)) hown (mvT hZ (hw _ (List.mem_of_getElem? (i := 22) rfl))) (mvT hZ (hw _ (List.mem_of_getElem? (i := 23) rfl))) (notFace_of_selects (args := #[]) (mvT hZ (hw _ (List.mem_of_getElem? (i := 25) rfl)))) (mvT hZ (hw _ (List.mem_of_getElem? (i := 25) rfl))) (mvT hZ (hw _ (List.mem_of_getElem? (i := 24) rfl))) (by decide) (backOf (W := 0) (rm_add0 lL Z a0 hw [] b1_ v_2_ g_2_ s_2_ b_2_ z bv (FP.i2d p5) ((0 : Int32) + (1 : Int32)) (FP.dadd ((own_upD (fun _ => (0 : UInt64)) bv (FP.dadd ((fun _ => (0 : UInt64)) bv) (4787326403894837248 : UInt64))) bv) (FP.i2d p5)) (FP.dadd ((own_upD (fun _ => (0 : UInt64)) bv (FP.dadd ((fun _ => (0 : UInt64)) bv) (own_ab (4787326403894837248 : UInt64)))) bv) (own_ab (FP.i2d p5))) (own_upD (fun _ => (0 : UInt64)) bv (FP.dadd ((fun _ => (0 : UInt64)) bv) (4787326403894837248 : UInt64))) (own_upD (fun _ => (0 : UInt64)) bv (FP.dadd ((fun _ => (0 : UInt64)) bv) (own_ab (4787326403894837248 : UInt64)))) (own_up (fun _ => (0 : Int32)) (0 : Int32) bv) (own_up (fun _ => (0 : Int32)) bv (1 : Int32)) T31_.heap n0 (Nat.le_trans Z0 K31_.1) p31__1 p31__2 p31__3 p31__4 p31__5 p31__6 p31__7 p31__8 p31__9 p31__10 ge_b1_ ge_v_2_ ge_g_2_ ge_s_2_ ge_b_2_ p2__5 p2__6 p2__7 p2__8 p2__9 p2__10 (Ne.symm ne3_) (Ne.symm ne4_) (Ne.symm ne5_) (Ne.symm ne6_) hbi (i2d_fin p5).noNaN rfl (dadd_out (by rw [own_hitD]; exact (dadd_out own_zf.noNaN own_bigf)) (i2d_fin p5)) rfl (dadd_out (by rw [own_hitD]; exact (dadd_out own_zf.noNaN (own_abf own_bigf))) (own_abf (i2d_fin p5))) (by rw [own_hit]; decide)) hZ (hw _ (List.mem_of_getElem? (i := 26) rfl)) (hw _ (List.mem_of_getElem? (i := 4) rfl)) (by decide) (by decide)) q33_a q33_c (g := (mkF mM 74 #[.val (.int p1), .val (.int p2), .val (.int p3), .val (.int p4), .val (.int p5), .val (.int p6), .val (.int z), .val (.int bv), .val (.int bv), .val (.int (2 : Int32)), .val (.double (4787326403894837248 : UInt64)), .second, .val (.ref b1_), .unset] [(.double (FP.i2d p5)), (.int bv), (.ref b1_)])) rfl (by rw [hml]; rfl) (Steps.refl _) (argsL := [(.int bv), (.double (FP.i2d p5))]) (rest := []) (lenOf own_pd4 rfl) rfl (by show 2 * 0 + _ ≤ _; exact Nat.le_of_eq rfl) (Jvm.hb hby at_74) (fun _ _ => ⟨rfl, rfl, (by decide : 5 + 0 ≤ _), (by decide : 21 + 0 ≤ _)⟩)
      dsimp only [Pt.U, Pt.locs, Pt.cells, Pt.slots] at X33_ l33_ y33_ z33_ st33_ hQ33_
      subst l33_ y33_ z33_
      obtain ⟨rfl, N33_q, p33__0, p33__1, p33__2, p33__3, p33__4, p33__5, p33__6, p33__7, p33__8, p33__9, p33__10⟩ := hQ33_
      have N33_ := Fr.app N31_ N33_q
      have fc34_ := p31__1.keep p33__0
      have K33_ := K31_.trans p33__0 (allS (Or.inr sz_b1_) (allS (Or.inr sz_v_2_) (allS (Or.inr sz_g_2_) (allS (Or.inr sz_s_2_) (allS (Or.inr sz_b_2_) all0)))))
      refine own_fin (fun tT kK => st33_.trans kK) ?_
      show own_Fin pP eE below _ (T33_.setTop (mkF mM 77 #[.val (.int p1), .val (.int p2), .val (.int p3), .val (.int p4), .val (.int p5), .val (.int p6), .val (.int z), .val (.int bv), .val (.int bv), .val (.int (2 : Int32)), .val (.double (4787326403894837248 : UInt64)), .second, .val (.ref b1_), .unset] []))
      refine own_fin (b := T33_.setTop (mkF mM 93 #[.val (.int p1), .val (.int p2), .val (.int p3), .val (.int p4), .val (.int p5), .val (.int p6), .val (.int z), .val (.int bv), .val (.int bv), .val (.int (2 : Int32)), .val (.double (4787326403894837248 : UInt64)), .second, .val (.ref b1_), .unset] [])) (fun tT kK => ?_) ?_
      · show Steps pP.tables eE below (T33_.setTop (mkF mM 77 #[.val (.int p1), .val (.int p2), .val (.int p3), .val (.int p4), .val (.int p5), .val (.int p6), .val (.int z), .val (.int bv), .val (.int bv), .val (.int (2 : Int32)), .val (.double (4787326403894837248 : UInt64)), .second, .val (.ref b1_), .unset] [])) tT
        refine XS.iload X33_.here hx rfl (Jvm.hb hby at_77) rfl ?_
        show Steps pP.tables eE below (T33_.setTop (mkF mM 79 #[.val (.int p1), .val (.int p2), .val (.int p3), .val (.int p4), .val (.int p5), .val (.int p6), .val (.int z), .val (.int bv), .val (.int bv), .val (.int (2 : Int32)), .val (.double (4787326403894837248 : UInt64)), .second, .val (.ref b1_), .unset] [(.int (2 : Int32))])) tT
        refine XS.iconst X33_.here hx rfl (Jvm.hb hby at_79) ?_
        show Steps pP.tables eE below (T33_.setTop (mkF mM 80 #[.val (.int p1), .val (.int p2), .val (.int p3), .val (.int p4), .val (.int p5), .val (.int p6), .val (.int z), .val (.int bv), .val (.int bv), .val (.int (2 : Int32)), .val (.double (4787326403894837248 : UInt64)), .second, .val (.ref b1_), .unset] [(.int (3 : Int32)), (.int (2 : Int32))])) tT
        refine XS.icmpYes X33_.here hx rfl (pc0 := 80) (pc' := 93) rfl (Jvm.hb hby at_80) rfl (tlt ((by decide) : (2 : Int32) < (3 : Int32))).1 (by decide) (by decide) ?_
        show Steps pP.tables eE below (T33_.setTop (mkF mM 93 #[.val (.int p1), .val (.int p2), .val (.int p3), .val (.int p4), .val (.int p5), .val (.int p6), .val (.int z), .val (.int bv), .val (.int bv), .val (.int (2 : Int32)), .val (.double (4787326403894837248 : UInt64)), .second, .val (.ref b1_), .unset] [])) tT
        exact kK
      show own_Fin pP eE below _ (T33_.setTop (mkF mM 93 #[.val (.int p1), .val (.int p2), .val (.int p3), .val (.int p4), .val (.int p5), .val (.int p6), .val (.int z), .val (.int bv), .val (.int bv), .val (.int (2 : Int32)), .val (.double (4787326403894837248 : UInt64)), .second, .val (.ref b1_), .unset] []))
      exact jp8_ ((0 : Int32) + (1 : Int32)) (own_up (fun _ => (0 : Int32)) (0 : Int32) bv) (own_up (fun _ => (0 : Int32)) bv (1 : Int32)) (own_upD (own_upD (fun _ => (0 : UInt64)) bv (FP.dadd ((fun _ => (0 : UInt64)) bv) (4787326403894837248 : UInt64))) bv (FP.dadd ((own_upD (fun _ => (0 : UInt64)) bv (FP.dadd ((fun _ => (0 : UInt64)) bv) (4787326403894837248 : UInt64))) bv) (FP.i2d p5))) (own_upD (own_upD (fun _ => (0 : UInt64)) bv (FP.dadd ((fun _ => (0 : UInt64)) bv) (own_ab (4787326403894837248 : UInt64)))) bv (FP.dadd ((own_upD (fun _ => (0 : UInt64)) bv (FP.dadd ((fun _ => (0 : UInt64)) bv) (own_ab (4787326403894837248 : UInt64)))) bv) (own_ab (FP.i2d p5)))) _ _ _ (own_inv1b hbi (own_0in hzb)) X33_ rfl K33_ p33__1 p33__2 p33__3 p33__4 p33__5 p33__6 p33__7 p33__8 p33__9 p33__10 N33_
    · show own_Fin pP eE below _ (T31_.setTop (mkF mM 74 #[.val (.int p1), .val (.int p2), .val (.int p3), .val (.int p4), .val (.int p5), .val (.int p6), .val (.int z), .val (.int av), .val (.int bv), .val (.int (2 : Int32)), .val (.double (4787326403894837248 : UInt64)), .second, .val (.ref b1_), .unset] [(.double (FP.i2d p5)), (.int bv), (.ref b1_)]))
      obtain ⟨cq35_, kq35_, q35_a, q35_b, q35_c⟩ := isOf hZ rfl p31__1
      obtain ⟨_, _, ⟨T35_, L35_, k35_, n35_⟩, -, X35_, ⟨Lc35_, hQ35_, l35_, y35_, z35_⟩, st35_⟩ := X31_.virtualBack hx (y := (⟨"com/example/chains_to_rank/chainstorank/ranker/Scores", "add", "(ID)V"⟩ : MethodName)) (z := (⟨"com/example/chains_to_rank/chainstorank/ranker/Scores", "add", "(ID)V"⟩ : MethodName)) hown (mvT hZ (hw _ (List.mem_of_getElem? (i := 22) rfl))) (mvT hZ (hw _ (List.mem_of_getElem? (i := 23) rfl))) (notFace_of_selects (args := #[]) (mvT hZ (hw _ (List.mem_of_getElem? (i := 25) rfl)))) (mvT hZ (hw _ (List.mem_of_getElem? (i := 25) rfl))) (mvT hZ (hw _ (List.mem_of_getElem? (i := 24) rfl))) (by decide) (backOf (W := 0) (rm_add1 lL Z a0 hw [] b1_ v_2_ g_2_ s_2_ b_2_ z bv (FP.i2d p5) ((0 : Int32) + (1 : Int32)) (FP.dadd ((own_upD (fun _ => (0 : UInt64)) av (FP.dadd ((fun _ => (0 : UInt64)) av) (4787326403894837248 : UInt64))) bv) (FP.i2d p5)) (FP.dadd ((own_upD (fun _ => (0 : UInt64)) av (FP.dadd ((fun _ => (0 : UInt64)) av) (own_ab (4787326403894837248 : UInt64)))) bv) (own_ab (FP.i2d p5))) (own_upD (fun _ => (0 : UInt64)) av (FP.dadd ((fun _ => (0 : UInt64)) av) (4787326403894837248 : UInt64))) (own_upD (fun _ => (0 : UInt64)) av (FP.dadd ((fun _ => (0 : UInt64)) av) (own_ab (4787326403894837248 : UInt64)))) (own_up (fun _ => (0 : Int32)) (0 : Int32) av) (own_up (fun _ => (0 : Int32)) av (1 : Int32)) T31_.heap n0 (Nat.le_trans Z0 K31_.1) p31__1 p31__2 p31__3 p31__4 p31__5 p31__6 p31__7 p31__8 p31__9 p31__10 ge_b1_ ge_v_2_ ge_g_2_ ge_s_2_ ge_b_2_ p2__5 p2__6 p2__7 p2__8 p2__9 p2__10 (Ne.symm ne3_) (Ne.symm ne4_) (Ne.symm ne5_) (Ne.symm ne6_) hbi (i2d_fin p5).noNaN rfl (dadd_out (by rw [own_missD (Ne.symm hne)]; exact own_zf.noNaN) (i2d_fin p5)) rfl (dadd_out (by rw [own_missD (Ne.symm hne)]; exact own_zf.noNaN) (own_abf (i2d_fin p5))) (own_1in hai hbi hne) (own_miss (Ne.symm hne))) hZ (hw _ (List.mem_of_getElem? (i := 26) rfl)) (hw _ (List.mem_of_getElem? (i := 4) rfl)) (by decide) (by decide)) q35_a q35_c (g := (mkF mM 74 #[.val (.int p1), .val (.int p2), .val (.int p3), .val (.int p4), .val (.int p5), .val (.int p6), .val (.int z), .val (.int av), .val (.int bv), .val (.int (2 : Int32)), .val (.double (4787326403894837248 : UInt64)), .second, .val (.ref b1_), .unset] [(.double (FP.i2d p5)), (.int bv), (.ref b1_)])) rfl (by rw [hml]; rfl) (Steps.refl _) (argsL := [(.int bv), (.double (FP.i2d p5))]) (rest := []) (lenOf own_pd4 rfl) rfl (by show 2 * 0 + _ ≤ _; exact Nat.le_of_eq rfl) (Jvm.hb hby at_74) (fun _ _ => ⟨rfl, rfl, (by decide : 5 + 0 ≤ _), (by decide : 21 + 0 ≤ _)⟩)
      dsimp only [Pt.U, Pt.locs, Pt.cells, Pt.slots] at X35_ l35_ y35_ z35_ st35_ hQ35_
      subst l35_ y35_ z35_
      obtain ⟨rfl, N35_q, p35__0, p35__1, p35__2, p35__3, p35__4, p35__5, p35__6, p35__7, p35__8, p35__9, p35__10⟩ := hQ35_
      have N35_ := Fr.app N31_ N35_q
      have fc36_ := p31__1.keep p35__0
      have K35_ := K31_.trans p35__0 (allS (Or.inr sz_b1_) (allS (Or.inr sz_v_2_) (allS (Or.inr sz_g_2_) (allS (Or.inr sz_s_2_) (allS (Or.inr sz_b_2_) all0)))))
      refine own_fin (fun tT kK => st35_.trans kK) ?_
      show own_Fin pP eE below _ (T35_.setTop (mkF mM 77 #[.val (.int p1), .val (.int p2), .val (.int p3), .val (.int p4), .val (.int p5), .val (.int p6), .val (.int z), .val (.int av), .val (.int bv), .val (.int (2 : Int32)), .val (.double (4787326403894837248 : UInt64)), .second, .val (.ref b1_), .unset] []))
      refine own_fin (b := T35_.setTop (mkF mM 93 #[.val (.int p1), .val (.int p2), .val (.int p3), .val (.int p4), .val (.int p5), .val (.int p6), .val (.int z), .val (.int av), .val (.int bv), .val (.int (2 : Int32)), .val (.double (4787326403894837248 : UInt64)), .second, .val (.ref b1_), .unset] [])) (fun tT kK => ?_) ?_
      · show Steps pP.tables eE below (T35_.setTop (mkF mM 77 #[.val (.int p1), .val (.int p2), .val (.int p3), .val (.int p4), .val (.int p5), .val (.int p6), .val (.int z), .val (.int av), .val (.int bv), .val (.int (2 : Int32)), .val (.double (4787326403894837248 : UInt64)), .second, .val (.ref b1_), .unset] [])) tT
        refine XS.iload X35_.here hx rfl (Jvm.hb hby at_77) rfl ?_
        show Steps pP.tables eE below (T35_.setTop (mkF mM 79 #[.val (.int p1), .val (.int p2), .val (.int p3), .val (.int p4), .val (.int p5), .val (.int p6), .val (.int z), .val (.int av), .val (.int bv), .val (.int (2 : Int32)), .val (.double (4787326403894837248 : UInt64)), .second, .val (.ref b1_), .unset] [(.int (2 : Int32))])) tT
        refine XS.iconst X35_.here hx rfl (Jvm.hb hby at_79) ?_
        show Steps pP.tables eE below (T35_.setTop (mkF mM 80 #[.val (.int p1), .val (.int p2), .val (.int p3), .val (.int p4), .val (.int p5), .val (.int p6), .val (.int z), .val (.int av), .val (.int bv), .val (.int (2 : Int32)), .val (.double (4787326403894837248 : UInt64)), .second, .val (.ref b1_), .unset] [(.int (3 : Int32)), (.int (2 : Int32))])) tT
        refine XS.icmpYes X35_.here hx rfl (pc0 := 80) (pc' := 93) rfl (Jvm.hb hby at_80) rfl (tlt ((by decide) : (2 : Int32) < (3 : Int32))).1 (by decide) (by decide) ?_
        show Steps pP.tables eE below (T35_.setTop (mkF mM 93 #[.val (.int p1), .val (.int p2), .val (.int p3), .val (.int p4), .val (.int p5), .val (.int p6), .val (.int z), .val (.int av), .val (.int bv), .val (.int (2 : Int32)), .val (.double (4787326403894837248 : UInt64)), .second, .val (.ref b1_), .unset] [])) tT
        exact kK
      show own_Fin pP eE below _ (T35_.setTop (mkF mM 93 #[.val (.int p1), .val (.int p2), .val (.int p3), .val (.int p4), .val (.int p5), .val (.int p6), .val (.int z), .val (.int av), .val (.int bv), .val (.int (2 : Int32)), .val (.double (4787326403894837248 : UInt64)), .second, .val (.ref b1_), .unset] []))
      exact jp8_ (((0 : Int32) + (1 : Int32)) + (1 : Int32)) (own_up (own_up (fun _ => (0 : Int32)) (0 : Int32) av) ((0 : Int32) + (1 : Int32)) bv) (own_up (own_up (fun _ => (0 : Int32)) av (1 : Int32)) bv (1 : Int32)) (own_upD (own_upD (fun _ => (0 : UInt64)) av (FP.dadd ((fun _ => (0 : UInt64)) av) (4787326403894837248 : UInt64))) bv (FP.dadd ((own_upD (fun _ => (0 : UInt64)) av (FP.dadd ((fun _ => (0 : UInt64)) av) (4787326403894837248 : UInt64))) bv) (FP.i2d p5))) (own_upD (own_upD (fun _ => (0 : UInt64)) av (FP.dadd ((fun _ => (0 : UInt64)) av) (own_ab (4787326403894837248 : UInt64)))) bv (FP.dadd ((own_upD (fun _ => (0 : UInt64)) av (FP.dadd ((fun _ => (0 : UInt64)) av) (own_ab (4787326403894837248 : UInt64)))) bv) (own_ab (FP.i2d p5)))) _ _ _ (own_inv2 hai hbi (own_0in hzb) (own_1in hai hbi hne)) X35_ rfl K35_ p35__1 p35__2 p35__3 p35__4 p35__5 p35__6 p35__7 p35__8 p35__9 p35__10 N35_
  · show own_Fin pP eE below _ (T2_.setTop (mkF mM 46 #[.val (.int p1), .val (.int p2), .val (.int p3), .val (.int p4), .val (.int p5), .val (.int p6), .val (.int z), .val (.int av), .val (.int bv), .val (.int (3 : Int32)), .val (.double (4787326403894837248 : UInt64)), .second, .val (.ref b1_), .unset] []))
    refine own_fin (b := T2_.setTop (mkF mM 58 #[.val (.int p1), .val (.int p2), .val (.int p3), .val (.int p4), .val (.int p5), .val (.int p6), .val (.int z), .val (.int av), .val (.int bv), .val (.int (3 : Int32)), .val (.double (4787326403894837248 : UInt64)), .second, .val (.ref b1_), .unset] [(.double (4787326403894837248 : UInt64)), (.int av), (.ref b1_)])) (fun tT kK => ?_) ?_
    · show Steps pP.tables eE below (T2_.setTop (mkF mM 46 #[.val (.int p1), .val (.int p2), .val (.int p3), .val (.int p4), .val (.int p5), .val (.int p6), .val (.int z), .val (.int av), .val (.int bv), .val (.int (3 : Int32)), .val (.double (4787326403894837248 : UInt64)), .second, .val (.ref b1_), .unset] [])) tT
      refine XS.iload X2_.here hx rfl (Jvm.hb hby at_46) rfl ?_
      show Steps pP.tables eE below (T2_.setTop (mkF mM 48 #[.val (.int p1), .val (.int p2), .val (.int p3), .val (.int p4), .val (.int p5), .val (.int p6), .val (.int z), .val (.int av), .val (.int bv), .val (.int (3 : Int32)), .val (.double (4787326403894837248 : UInt64)), .second, .val (.ref b1_), .unset] [(.int (3 : Int32))])) tT
      refine XS.iconst X2_.here hx rfl (Jvm.hb hby at_48) ?_
      show Steps pP.tables eE below (T2_.setTop (mkF mM 49 #[.val (.int p1), .val (.int p2), .val (.int p3), .val (.int p4), .val (.int p5), .val (.int p6), .val (.int z), .val (.int av), .val (.int bv), .val (.int (3 : Int32)), .val (.double (4787326403894837248 : UInt64)), .second, .val (.ref b1_), .unset] [(.int (1 : Int32)), (.int (3 : Int32))])) tT
      refine XS.icmpNo X2_.here hx rfl (Jvm.hb hby at_49) rfl (flt ((by decide) : ¬ ((3 : Int32) < (1 : Int32)))).1 ?_
      show Steps pP.tables eE below (T2_.setTop (mkF mM 52 #[.val (.int p1), .val (.int p2), .val (.int p3), .val (.int p4), .val (.int p5), .val (.int p6), .val (.int z), .val (.int av), .val (.int bv), .val (.int (3 : Int32)), .val (.double (4787326403894837248 : UInt64)), .second, .val (.ref b1_), .unset] [])) tT
      refine XS.aload X2_.here hx rfl (Jvm.hb hby at_52) rfl rfl ?_
      show Steps pP.tables eE below (T2_.setTop (mkF mM 54 #[.val (.int p1), .val (.int p2), .val (.int p3), .val (.int p4), .val (.int p5), .val (.int p6), .val (.int z), .val (.int av), .val (.int bv), .val (.int (3 : Int32)), .val (.double (4787326403894837248 : UInt64)), .second, .val (.ref b1_), .unset] [(.ref b1_)])) tT
      refine XS.iload X2_.here hx rfl (Jvm.hb hby at_54) rfl ?_
      show Steps pP.tables eE below (T2_.setTop (mkF mM 56 #[.val (.int p1), .val (.int p2), .val (.int p3), .val (.int p4), .val (.int p5), .val (.int p6), .val (.int z), .val (.int av), .val (.int bv), .val (.int (3 : Int32)), .val (.double (4787326403894837248 : UInt64)), .second, .val (.ref b1_), .unset] [(.int av), (.ref b1_)])) tT
      refine XS.dload X2_.here hx rfl (Jvm.hb hby at_56) rfl ?_
      show Steps pP.tables eE below (T2_.setTop (mkF mM 58 #[.val (.int p1), .val (.int p2), .val (.int p3), .val (.int p4), .val (.int p5), .val (.int p6), .val (.int z), .val (.int av), .val (.int bv), .val (.int (3 : Int32)), .val (.double (4787326403894837248 : UInt64)), .second, .val (.ref b1_), .unset] [(.double (4787326403894837248 : UInt64)), (.int av), (.ref b1_)])) tT
      exact kK
    obtain ⟨cq37_, kq37_, q37_a, q37_b, q37_c⟩ := isOf hZ rfl p2__11
    obtain ⟨_, _, ⟨T37_, L37_, k37_, n37_⟩, -, X37_, ⟨Lc37_, hQ37_, l37_, y37_, z37_⟩, st37_⟩ := X2_.virtualBack hx (y := (⟨"com/example/chains_to_rank/chainstorank/ranker/Scores", "add", "(ID)V"⟩ : MethodName)) (z := (⟨"com/example/chains_to_rank/chainstorank/ranker/Scores", "add", "(ID)V"⟩ : MethodName)) hown (mvT hZ (hw _ (List.mem_of_getElem? (i := 22) rfl))) (mvT hZ (hw _ (List.mem_of_getElem? (i := 23) rfl))) (notFace_of_selects (args := #[]) (mvT hZ (hw _ (List.mem_of_getElem? (i := 25) rfl)))) (mvT hZ (hw _ (List.mem_of_getElem? (i := 25) rfl))) (mvT hZ (hw _ (List.mem_of_getElem? (i := 24) rfl))) (by decide) (backOf (W := 0) (rm_add1 lL Z a0 hw [] b1_ v_2_ g_2_ s_2_ b_2_ z av (4787326403894837248 : UInt64) (0 : Int32) (FP.dadd ((fun _ => (0 : UInt64)) av) (4787326403894837248 : UInt64)) (FP.dadd ((fun _ => (0 : UInt64)) av) (own_ab (4787326403894837248 : UInt64))) (fun _ => (0 : UInt64)) (fun _ => (0 : UInt64)) (fun _ => (0 : Int32)) (fun _ => (0 : Int32)) T2_.heap n0 (Nat.le_trans Z0 K2_.1) p2__11 p2__12 p2__13 p2__14 p2__15 p2__16 p2__17 p2__18 p2__19 p2__20 ge_b1_ ge_v_2_ ge_g_2_ ge_s_2_ ge_b_2_ p2__5 p2__6 p2__7 p2__8 p2__9 p2__10 (Ne.symm ne3_) (Ne.symm ne4_) (Ne.symm ne5_) (Ne.symm ne6_) hai own_bigf.noNaN rfl (dadd_out own_zf.noNaN own_bigf) rfl (dadd_out own_zf.noNaN (own_abf own_bigf)) (own_0in hzb) rfl) hZ (hw _ (List.mem_of_getElem? (i := 26) rfl)) (hw _ (List.mem_of_getElem? (i := 4) rfl)) (by decide) (by decide)) q37_a q37_c (g := (mkF mM 58 #[.val (.int p1), .val (.int p2), .val (.int p3), .val (.int p4), .val (.int p5), .val (.int p6), .val (.int z), .val (.int av), .val (.int bv), .val (.int (3 : Int32)), .val (.double (4787326403894837248 : UInt64)), .second, .val (.ref b1_), .unset] [(.double (4787326403894837248 : UInt64)), (.int av), (.ref b1_)])) rfl (by rw [hml]; rfl) (Steps.refl _) (argsL := [(.int av), (.double (4787326403894837248 : UInt64))]) (rest := []) (lenOf own_pd4 rfl) rfl (by show 2 * 0 + _ ≤ _; exact Nat.le_of_eq rfl) (Jvm.hb hby at_58) (fun _ _ => ⟨rfl, rfl, (by decide : 5 + 0 ≤ _), (by decide : 21 + 0 ≤ _)⟩)
    dsimp only [Pt.U, Pt.locs, Pt.cells, Pt.slots] at X37_ l37_ y37_ z37_ st37_ hQ37_
    subst l37_ y37_ z37_
    obtain ⟨rfl, N37_q, p37__0, p37__1, p37__2, p37__3, p37__4, p37__5, p37__6, p37__7, p37__8, p37__9, p37__10⟩ := hQ37_
    have N37_ := Fr.app N2_ N37_q
    have fc38_ := p2__11.keep p37__0
    have K37_ := K2_.trans p37__0 (allS (Or.inr sz_b1_) (allS (Or.inr sz_v_2_) (allS (Or.inr sz_g_2_) (allS (Or.inr sz_s_2_) (allS (Or.inr sz_b_2_) all0)))))
    refine own_fin (fun tT kK => st37_.trans kK) ?_
    show own_Fin pP eE below _ (T37_.setTop (mkF mM 61 #[.val (.int p1), .val (.int p2), .val (.int p3), .val (.int p4), .val (.int p5), .val (.int p6), .val (.int z), .val (.int av), .val (.int bv), .val (.int (3 : Int32)), .val (.double (4787326403894837248 : UInt64)), .second, .val (.ref b1_), .unset] []))
    refine own_fin (b := T37_.setTop (mkF mM 74 #[.val (.int p1), .val (.int p2), .val (.int p3), .val (.int p4), .val (.int p5), .val (.int p6), .val (.int z), .val (.int av), .val (.int bv), .val (.int (3 : Int32)), .val (.double (4787326403894837248 : UInt64)), .second, .val (.ref b1_), .unset] [(.double (FP.i2d p5)), (.int bv), (.ref b1_)])) (fun tT kK => ?_) ?_
    · show Steps pP.tables eE below (T37_.setTop (mkF mM 61 #[.val (.int p1), .val (.int p2), .val (.int p3), .val (.int p4), .val (.int p5), .val (.int p6), .val (.int z), .val (.int av), .val (.int bv), .val (.int (3 : Int32)), .val (.double (4787326403894837248 : UInt64)), .second, .val (.ref b1_), .unset] [])) tT
      refine XS.iload X37_.here hx rfl (Jvm.hb hby at_61) rfl ?_
      show Steps pP.tables eE below (T37_.setTop (mkF mM 63 #[.val (.int p1), .val (.int p2), .val (.int p3), .val (.int p4), .val (.int p5), .val (.int p6), .val (.int z), .val (.int av), .val (.int bv), .val (.int (3 : Int32)), .val (.double (4787326403894837248 : UInt64)), .second, .val (.ref b1_), .unset] [(.int (3 : Int32))])) tT
      refine XS.iconst X37_.here hx rfl (Jvm.hb hby at_63) ?_
      show Steps pP.tables eE below (T37_.setTop (mkF mM 64 #[.val (.int p1), .val (.int p2), .val (.int p3), .val (.int p4), .val (.int p5), .val (.int p6), .val (.int z), .val (.int av), .val (.int bv), .val (.int (3 : Int32)), .val (.double (4787326403894837248 : UInt64)), .second, .val (.ref b1_), .unset] [(.int (2 : Int32)), (.int (3 : Int32))])) tT
      refine XS.icmpNo X37_.here hx rfl (Jvm.hb hby at_64) rfl (flt ((by decide) : ¬ ((3 : Int32) < (2 : Int32)))).1 ?_
      show Steps pP.tables eE below (T37_.setTop (mkF mM 67 #[.val (.int p1), .val (.int p2), .val (.int p3), .val (.int p4), .val (.int p5), .val (.int p6), .val (.int z), .val (.int av), .val (.int bv), .val (.int (3 : Int32)), .val (.double (4787326403894837248 : UInt64)), .second, .val (.ref b1_), .unset] [])) tT
      refine XS.aload X37_.here hx rfl (Jvm.hb hby at_67) rfl rfl ?_
      show Steps pP.tables eE below (T37_.setTop (mkF mM 69 #[.val (.int p1), .val (.int p2), .val (.int p3), .val (.int p4), .val (.int p5), .val (.int p6), .val (.int z), .val (.int av), .val (.int bv), .val (.int (3 : Int32)), .val (.double (4787326403894837248 : UInt64)), .second, .val (.ref b1_), .unset] [(.ref b1_)])) tT
      refine XS.iload X37_.here hx rfl (Jvm.hb hby at_69) rfl ?_
      show Steps pP.tables eE below (T37_.setTop (mkF mM 71 #[.val (.int p1), .val (.int p2), .val (.int p3), .val (.int p4), .val (.int p5), .val (.int p6), .val (.int z), .val (.int av), .val (.int bv), .val (.int (3 : Int32)), .val (.double (4787326403894837248 : UInt64)), .second, .val (.ref b1_), .unset] [(.int bv), (.ref b1_)])) tT
      refine XS.iload X37_.here hx rfl (Jvm.hb hby at_71) rfl ?_
      show Steps pP.tables eE below (T37_.setTop (mkF mM 73 #[.val (.int p1), .val (.int p2), .val (.int p3), .val (.int p4), .val (.int p5), .val (.int p6), .val (.int z), .val (.int av), .val (.int bv), .val (.int (3 : Int32)), .val (.double (4787326403894837248 : UInt64)), .second, .val (.ref b1_), .unset] [(.int p5), (.int bv), (.ref b1_)])) tT
      refine XS.i2dS X37_.here hx rfl (Jvm.hb hby at_73) rfl rfl ?_
      show Steps pP.tables eE below (T37_.setTop (mkF mM 74 #[.val (.int p1), .val (.int p2), .val (.int p3), .val (.int p4), .val (.int p5), .val (.int p6), .val (.int z), .val (.int av), .val (.int bv), .val (.int (3 : Int32)), .val (.double (4787326403894837248 : UInt64)), .second, .val (.ref b1_), .unset] [(.double (FP.i2d p5)), (.int bv), (.ref b1_)])) tT
      exact kK
    rcases Classical.em (bv = av) with rfl | hne
    · show own_Fin pP eE below _ (T37_.setTop (mkF mM 74 #[.val (.int p1), .val (.int p2), .val (.int p3), .val (.int p4), .val (.int p5), .val (.int p6), .val (.int z), .val (.int bv), .val (.int bv), .val (.int (3 : Int32)), .val (.double (4787326403894837248 : UInt64)), .second, .val (.ref b1_), .unset] [(.double (FP.i2d p5)), (.int bv), (.ref b1_)]))
      obtain ⟨cq39_, kq39_, q39_a, q39_b, q39_c⟩ := isOf hZ rfl p37__1
      obtain ⟨_, _, ⟨T39_, L39_, k39_, n39_⟩, -, X39_, ⟨Lc39_, hQ39_, l39_, y39_, z39_⟩, st39_⟩ := X37_.virtualBack hx (y := (⟨"com/example/chains_to_rank/chainstorank/ranker/Scores", "add", "(ID)V"⟩ : MethodName)) (z := (⟨"com/example/chains_to_rank/chainstorank/ranker/Scores", "add", "(ID)V"⟩ : MethodName)) hown (mvT hZ (hw _ (List.mem_of_getElem? (i := 22) rfl))) (mvT hZ (hw _ (List.mem_of_getElem? (i := 23) rfl))) (notFace_of_selects (args := #[]) (mvT hZ (hw _ (List.mem_of_getElem? (i := 25) rfl)))) (mvT hZ (hw _ (List.mem_of_getElem? (i := 25) rfl))) (mvT hZ (hw _ (List.mem_of_getElem? (i := 24) rfl))) (by decide) (backOf (W := 0) (rm_add0 lL Z a0 hw [] b1_ v_2_ g_2_ s_2_ b_2_ z bv (FP.i2d p5) ((0 : Int32) + (1 : Int32)) (FP.dadd ((own_upD (fun _ => (0 : UInt64)) bv (FP.dadd ((fun _ => (0 : UInt64)) bv) (4787326403894837248 : UInt64))) bv) (FP.i2d p5)) (FP.dadd ((own_upD (fun _ => (0 : UInt64)) bv (FP.dadd ((fun _ => (0 : UInt64)) bv) (own_ab (4787326403894837248 : UInt64)))) bv) (own_ab (FP.i2d p5))) (own_upD (fun _ => (0 : UInt64)) bv (FP.dadd ((fun _ => (0 : UInt64)) bv) (4787326403894837248 : UInt64))) (own_upD (fun _ => (0 : UInt64)) bv (FP.dadd ((fun _ => (0 : UInt64)) bv) (own_ab (4787326403894837248 : UInt64)))) (own_up (fun _ => (0 : Int32)) (0 : Int32) bv) (own_up (fun _ => (0 : Int32)) bv (1 : Int32)) T37_.heap n0 (Nat.le_trans Z0 K37_.1) p37__1 p37__2 p37__3 p37__4 p37__5 p37__6 p37__7 p37__8 p37__9 p37__10 ge_b1_ ge_v_2_ ge_g_2_ ge_s_2_ ge_b_2_ p2__5 p2__6 p2__7 p2__8 p2__9 p2__10 (Ne.symm ne3_) (Ne.symm ne4_) (Ne.symm ne5_) (Ne.symm ne6_) hbi (i2d_fin p5).noNaN rfl (dadd_out (by rw [own_hitD]; exact (dadd_out own_zf.noNaN own_bigf)) (i2d_fin p5)) rfl (dadd_out (by rw [own_hitD]; exact (dadd_out own_zf.noNaN (own_abf own_bigf))) (own_abf (i2d_fin p5))) (by rw [own_hit]; decide)) hZ (hw _ (List.mem_of_getElem? (i := 26) rfl)) (hw _ (List.mem_of_getElem? (i := 4) rfl)) (by decide) (by decide)) q39_a q39_c (g := (mkF mM 74 #[.val (.int p1), .val (.int p2), .val (.int p3), .val (.int p4), .val (.int p5), .val (.int p6), .val (.int z), .val (.int bv), .val (.int bv), .val (.int (3 : Int32)), .val (.double (4787326403894837248 : UInt64)), .second, .val (.ref b1_), .unset] [(.double (FP.i2d p5)), (.int bv), (.ref b1_)])) rfl (by rw [hml]; rfl) (Steps.refl _) (argsL := [(.int bv), (.double (FP.i2d p5))]) (rest := []) (lenOf own_pd4 rfl) rfl (by show 2 * 0 + _ ≤ _; exact Nat.le_of_eq rfl) (Jvm.hb hby at_74) (fun _ _ => ⟨rfl, rfl, (by decide : 5 + 0 ≤ _), (by decide : 21 + 0 ≤ _)⟩)
      dsimp only [Pt.U, Pt.locs, Pt.cells, Pt.slots] at X39_ l39_ y39_ z39_ st39_ hQ39_
      subst l39_ y39_ z39_
      obtain ⟨rfl, N39_q, p39__0, p39__1, p39__2, p39__3, p39__4, p39__5, p39__6, p39__7, p39__8, p39__9, p39__10⟩ := hQ39_
      have N39_ := Fr.app N37_ N39_q
      have fc40_ := p37__1.keep p39__0
      have K39_ := K37_.trans p39__0 (allS (Or.inr sz_b1_) (allS (Or.inr sz_v_2_) (allS (Or.inr sz_g_2_) (allS (Or.inr sz_s_2_) (allS (Or.inr sz_b_2_) all0)))))
      refine own_fin (fun tT kK => st39_.trans kK) ?_
      show own_Fin pP eE below _ (T39_.setTop (mkF mM 77 #[.val (.int p1), .val (.int p2), .val (.int p3), .val (.int p4), .val (.int p5), .val (.int p6), .val (.int z), .val (.int bv), .val (.int bv), .val (.int (3 : Int32)), .val (.double (4787326403894837248 : UInt64)), .second, .val (.ref b1_), .unset] []))
      refine own_fin (b := T39_.setTop (mkF mM 90 #[.val (.int p1), .val (.int p2), .val (.int p3), .val (.int p4), .val (.int p5), .val (.int p6), .val (.int z), .val (.int bv), .val (.int bv), .val (.int (3 : Int32)), .val (.double (4787326403894837248 : UInt64)), .second, .val (.ref b1_), .unset] [(.double (FP.dneg (4787326403894837248 : UInt64))), (.int bv), (.ref b1_)])) (fun tT kK => ?_) ?_
      · show Steps pP.tables eE below (T39_.setTop (mkF mM 77 #[.val (.int p1), .val (.int p2), .val (.int p3), .val (.int p4), .val (.int p5), .val (.int p6), .val (.int z), .val (.int bv), .val (.int bv), .val (.int (3 : Int32)), .val (.double (4787326403894837248 : UInt64)), .second, .val (.ref b1_), .unset] [])) tT
        refine XS.iload X39_.here hx rfl (Jvm.hb hby at_77) rfl ?_
        show Steps pP.tables eE below (T39_.setTop (mkF mM 79 #[.val (.int p1), .val (.int p2), .val (.int p3), .val (.int p4), .val (.int p5), .val (.int p6), .val (.int z), .val (.int bv), .val (.int bv), .val (.int (3 : Int32)), .val (.double (4787326403894837248 : UInt64)), .second, .val (.ref b1_), .unset] [(.int (3 : Int32))])) tT
        refine XS.iconst X39_.here hx rfl (Jvm.hb hby at_79) ?_
        show Steps pP.tables eE below (T39_.setTop (mkF mM 80 #[.val (.int p1), .val (.int p2), .val (.int p3), .val (.int p4), .val (.int p5), .val (.int p6), .val (.int z), .val (.int bv), .val (.int bv), .val (.int (3 : Int32)), .val (.double (4787326403894837248 : UInt64)), .second, .val (.ref b1_), .unset] [(.int (3 : Int32)), (.int (3 : Int32))])) tT
        refine XS.icmpNo X39_.here hx rfl (Jvm.hb hby at_80) rfl (flt ((by decide) : ¬ ((3 : Int32) < (3 : Int32)))).1 ?_
        show Steps pP.tables eE below (T39_.setTop (mkF mM 83 #[.val (.int p1), .val (.int p2), .val (.int p3), .val (.int p4), .val (.int p5), .val (.int p6), .val (.int z), .val (.int bv), .val (.int bv), .val (.int (3 : Int32)), .val (.double (4787326403894837248 : UInt64)), .second, .val (.ref b1_), .unset] [])) tT
        refine XS.aload X39_.here hx rfl (Jvm.hb hby at_83) rfl rfl ?_
        show Steps pP.tables eE below (T39_.setTop (mkF mM 85 #[.val (.int p1), .val (.int p2), .val (.int p3), .val (.int p4), .val (.int p5), .val (.int p6), .val (.int z), .val (.int bv), .val (.int bv), .val (.int (3 : Int32)), .val (.double (4787326403894837248 : UInt64)), .second, .val (.ref b1_), .unset] [(.ref b1_)])) tT
        refine XS.iload X39_.here hx rfl (Jvm.hb hby at_85) rfl ?_
        show Steps pP.tables eE below (T39_.setTop (mkF mM 87 #[.val (.int p1), .val (.int p2), .val (.int p3), .val (.int p4), .val (.int p5), .val (.int p6), .val (.int z), .val (.int bv), .val (.int bv), .val (.int (3 : Int32)), .val (.double (4787326403894837248 : UInt64)), .second, .val (.ref b1_), .unset] [(.int bv), (.ref b1_)])) tT
        refine XS.dload X39_.here hx rfl (Jvm.hb hby at_87) rfl ?_
        show Steps pP.tables eE below (T39_.setTop (mkF mM 89 #[.val (.int p1), .val (.int p2), .val (.int p3), .val (.int p4), .val (.int p5), .val (.int p6), .val (.int z), .val (.int bv), .val (.int bv), .val (.int (3 : Int32)), .val (.double (4787326403894837248 : UInt64)), .second, .val (.ref b1_), .unset] [(.double (4787326403894837248 : UInt64)), (.int bv), (.ref b1_)])) tT
        refine XS.dnegS X39_.here hx rfl (Jvm.hb hby at_89) rfl (v := (FP.dneg (4787326403894837248 : UInt64))) rfl ?_
        show Steps pP.tables eE below (T39_.setTop (mkF mM 90 #[.val (.int p1), .val (.int p2), .val (.int p3), .val (.int p4), .val (.int p5), .val (.int p6), .val (.int z), .val (.int bv), .val (.int bv), .val (.int (3 : Int32)), .val (.double (4787326403894837248 : UInt64)), .second, .val (.ref b1_), .unset] [(.double (FP.dneg (4787326403894837248 : UInt64))), (.int bv), (.ref b1_)])) tT
        exact kK
      obtain ⟨cq41_, kq41_, q41_a, q41_b, q41_c⟩ := isOf hZ rfl p39__1
      obtain ⟨_, _, ⟨T41_, L41_, k41_, n41_⟩, -, X41_, ⟨Lc41_, hQ41_, l41_, y41_, z41_⟩, st41_⟩ := X39_.virtualBack hx (y := (⟨"com/example/chains_to_rank/chainstorank/ranker/Scores", "add", "(ID)V"⟩ : MethodName)) (z := (⟨"com/example/chains_to_rank/chainstorank/ranker/Scores", "add", "(ID)V"⟩ : MethodName)) hown (mvT hZ (hw _ (List.mem_of_getElem? (i := 22) rfl))) (mvT hZ (hw _ (List.mem_of_getElem? (i := 23) rfl))) (notFace_of_selects (args := #[]) (mvT hZ (hw _ (List.mem_of_getElem? (i := 25) rfl)))) (mvT hZ (hw _ (List.mem_of_getElem? (i := 25) rfl))) (mvT hZ (hw _ (List.mem_of_getElem? (i := 24) rfl))) (by decide) (backOf (W := 0) (rm_add0 lL Z a0 hw [] b1_ v_2_ g_2_ s_2_ b_2_ z bv (FP.dneg (4787326403894837248 : UInt64)) ((0 : Int32) + (1 : Int32)) (FP.dadd ((own_upD (own_upD (fun _ => (0 : UInt64)) bv (FP.dadd ((fun _ => (0 : UInt64)) bv) (4787326403894837248 : UInt64))) bv (FP.dadd ((own_upD (fun _ => (0 : UInt64)) bv (FP.dadd ((fun _ => (0 : UInt64)) bv) (4787326403894837248 : UInt64))) bv) (FP.i2d p5))) bv) (FP.dneg (4787326403894837248 : UInt64))) (FP.dadd ((own_upD (own_upD (fun _ => (0 : UInt64)) bv (FP.dadd ((fun _ => (0 : UInt64)) bv) (own_ab (4787326403894837248 : UInt64)))) bv (FP.dadd ((own_upD (fun _ => (0 : UInt64)) bv (FP.dadd ((fun _ => (0 : UInt64)) bv) (own_ab (4787326403894837248 : UInt64)))) bv) (own_ab (FP.i2d p5)))) bv) (own_ab (FP.dneg (4787326403894837248 : UInt64)))) (own_upD (own_upD (fun _ => (0 : UInt64)) bv (FP.dadd ((fun _ => (0 : UInt64)) bv) (4787326403894837248 : UInt64))) bv (FP.dadd ((own_upD (fun _ => (0 : UInt64)) bv (FP.dadd ((fun _ => (0 : UInt64)) bv) (4787326403894837248 : UInt64))) bv) (FP.i2d p5))) (own_upD (own_upD (fun _ => (0 : UInt64)) bv (FP.dadd ((fun _ => (0 : UInt64)) bv) (own_ab (4787326403894837248 : UInt64)))) bv (FP.dadd ((own_upD (fun _ => (0 : UInt64)) bv (FP.dadd ((fun _ => (0 : UInt64)) bv) (own_ab (4787326403894837248 : UInt64)))) bv) (own_ab (FP.i2d p5)))) (own_up (fun _ => (0 : Int32)) (0 : Int32) bv) (own_up (fun _ => (0 : Int32)) bv (1 : Int32)) T39_.heap n0 (Nat.le_trans Z0 K39_.1) p39__1 p39__2 p39__3 p39__4 p39__5 p39__6 p39__7 p39__8 p39__9 p39__10 ge_b1_ ge_v_2_ ge_g_2_ ge_s_2_ ge_b_2_ p2__5 p2__6 p2__7 p2__8 p2__9 p2__10 (Ne.symm ne3_) (Ne.symm ne4_) (Ne.symm ne5_) (Ne.symm ne6_) hbi own_nbf.noNaN rfl (dadd_out (by rw [own_hitD]; exact (dadd_out (by rw [own_hitD]; exact (dadd_out own_zf.noNaN own_bigf)) (i2d_fin p5))) own_nbf) rfl (dadd_out (by rw [own_hitD]; exact (dadd_out (by rw [own_hitD]; exact (dadd_out own_zf.noNaN (own_abf own_bigf))) (own_abf (i2d_fin p5)))) (own_abf own_nbf)) (by rw [own_hit]; decide)) hZ (hw _ (List.mem_of_getElem? (i := 26) rfl)) (hw _ (List.mem_of_getElem? (i := 4) rfl)) (by decide) (by decide)) q41_a q41_c (g := (mkF mM 90 #[.val (.int p1), .val (.int p2), .val (.int p3), .val (.int p4), .val (.int p5), .val (.int p6), .val (.int z), .val (.int bv), .val (.int bv), .val (.int (3 : Int32)), .val (.double (4787326403894837248 : UInt64)), .second, .val (.ref b1_), .unset] [(.double (FP.dneg (4787326403894837248 : UInt64))), (.int bv), (.ref b1_)])) rfl (by rw [hml]; rfl) (Steps.refl _) (argsL := [(.int bv), (.double (FP.dneg (4787326403894837248 : UInt64)))]) (rest := []) (lenOf own_pd4 rfl) rfl (by show 2 * 0 + _ ≤ _; exact Nat.le_of_eq rfl) (Jvm.hb hby at_90) (fun _ _ => ⟨rfl, rfl, (by decide : 5 + 0 ≤ _), (by decide : 21 + 0 ≤ _)⟩)
      dsimp only [Pt.U, Pt.locs, Pt.cells, Pt.slots] at X41_ l41_ y41_ z41_ st41_ hQ41_
      subst l41_ y41_ z41_
      obtain ⟨rfl, N41_q, p41__0, p41__1, p41__2, p41__3, p41__4, p41__5, p41__6, p41__7, p41__8, p41__9, p41__10⟩ := hQ41_
      have N41_ := Fr.app N39_ N41_q
      have fc42_ := p39__1.keep p41__0
      have K41_ := K39_.trans p41__0 (allS (Or.inr sz_b1_) (allS (Or.inr sz_v_2_) (allS (Or.inr sz_g_2_) (allS (Or.inr sz_s_2_) (allS (Or.inr sz_b_2_) all0)))))
      refine own_fin (fun tT kK => st41_.trans kK) ?_
      show own_Fin pP eE below _ (T41_.setTop (mkF mM 93 #[.val (.int p1), .val (.int p2), .val (.int p3), .val (.int p4), .val (.int p5), .val (.int p6), .val (.int z), .val (.int bv), .val (.int bv), .val (.int (3 : Int32)), .val (.double (4787326403894837248 : UInt64)), .second, .val (.ref b1_), .unset] []))
      show own_Fin pP eE below _ (T41_.setTop (mkF mM 93 #[.val (.int p1), .val (.int p2), .val (.int p3), .val (.int p4), .val (.int p5), .val (.int p6), .val (.int z), .val (.int bv), .val (.int bv), .val (.int (3 : Int32)), .val (.double (4787326403894837248 : UInt64)), .second, .val (.ref b1_), .unset] []))
      exact jp8_ ((0 : Int32) + (1 : Int32)) (own_up (fun _ => (0 : Int32)) (0 : Int32) bv) (own_up (fun _ => (0 : Int32)) bv (1 : Int32)) (own_upD (own_upD (own_upD (fun _ => (0 : UInt64)) bv (FP.dadd ((fun _ => (0 : UInt64)) bv) (4787326403894837248 : UInt64))) bv (FP.dadd ((own_upD (fun _ => (0 : UInt64)) bv (FP.dadd ((fun _ => (0 : UInt64)) bv) (4787326403894837248 : UInt64))) bv) (FP.i2d p5))) bv (FP.dadd ((own_upD (own_upD (fun _ => (0 : UInt64)) bv (FP.dadd ((fun _ => (0 : UInt64)) bv) (4787326403894837248 : UInt64))) bv (FP.dadd ((own_upD (fun _ => (0 : UInt64)) bv (FP.dadd ((fun _ => (0 : UInt64)) bv) (4787326403894837248 : UInt64))) bv) (FP.i2d p5))) bv) (FP.dneg (4787326403894837248 : UInt64)))) (own_upD (own_upD (own_upD (fun _ => (0 : UInt64)) bv (FP.dadd ((fun _ => (0 : UInt64)) bv) (own_ab (4787326403894837248 : UInt64)))) bv (FP.dadd ((own_upD (fun _ => (0 : UInt64)) bv (FP.dadd ((fun _ => (0 : UInt64)) bv) (own_ab (4787326403894837248 : UInt64)))) bv) (own_ab (FP.i2d p5)))) bv (FP.dadd ((own_upD (own_upD (fun _ => (0 : UInt64)) bv (FP.dadd ((fun _ => (0 : UInt64)) bv) (own_ab (4787326403894837248 : UInt64)))) bv (FP.dadd ((own_upD (fun _ => (0 : UInt64)) bv (FP.dadd ((fun _ => (0 : UInt64)) bv) (own_ab (4787326403894837248 : UInt64)))) bv) (own_ab (FP.i2d p5)))) bv) (own_ab (FP.dneg (4787326403894837248 : UInt64))))) _ _ _ (own_inv1c hbi (own_0in hzb)) X41_ rfl K41_ p41__1 p41__2 p41__3 p41__4 p41__5 p41__6 p41__7 p41__8 p41__9 p41__10 N41_
    · show own_Fin pP eE below _ (T37_.setTop (mkF mM 74 #[.val (.int p1), .val (.int p2), .val (.int p3), .val (.int p4), .val (.int p5), .val (.int p6), .val (.int z), .val (.int av), .val (.int bv), .val (.int (3 : Int32)), .val (.double (4787326403894837248 : UInt64)), .second, .val (.ref b1_), .unset] [(.double (FP.i2d p5)), (.int bv), (.ref b1_)]))
      obtain ⟨cq43_, kq43_, q43_a, q43_b, q43_c⟩ := isOf hZ rfl p37__1
      obtain ⟨_, _, ⟨T43_, L43_, k43_, n43_⟩, -, X43_, ⟨Lc43_, hQ43_, l43_, y43_, z43_⟩, st43_⟩ := X37_.virtualBack hx (y := (⟨"com/example/chains_to_rank/chainstorank/ranker/Scores", "add", "(ID)V"⟩ : MethodName)) (z := (⟨"com/example/chains_to_rank/chainstorank/ranker/Scores", "add", "(ID)V"⟩ : MethodName)) hown (mvT hZ (hw _ (List.mem_of_getElem? (i := 22) rfl))) (mvT hZ (hw _ (List.mem_of_getElem? (i := 23) rfl))) (notFace_of_selects (args := #[]) (mvT hZ (hw _ (List.mem_of_getElem? (i := 25) rfl)))) (mvT hZ (hw _ (List.mem_of_getElem? (i := 25) rfl))) (mvT hZ (hw _ (List.mem_of_getElem? (i := 24) rfl))) (by decide) (backOf (W := 0) (rm_add1 lL Z a0 hw [] b1_ v_2_ g_2_ s_2_ b_2_ z bv (FP.i2d p5) ((0 : Int32) + (1 : Int32)) (FP.dadd ((own_upD (fun _ => (0 : UInt64)) av (FP.dadd ((fun _ => (0 : UInt64)) av) (4787326403894837248 : UInt64))) bv) (FP.i2d p5)) (FP.dadd ((own_upD (fun _ => (0 : UInt64)) av (FP.dadd ((fun _ => (0 : UInt64)) av) (own_ab (4787326403894837248 : UInt64)))) bv) (own_ab (FP.i2d p5))) (own_upD (fun _ => (0 : UInt64)) av (FP.dadd ((fun _ => (0 : UInt64)) av) (4787326403894837248 : UInt64))) (own_upD (fun _ => (0 : UInt64)) av (FP.dadd ((fun _ => (0 : UInt64)) av) (own_ab (4787326403894837248 : UInt64)))) (own_up (fun _ => (0 : Int32)) (0 : Int32) av) (own_up (fun _ => (0 : Int32)) av (1 : Int32)) T37_.heap n0 (Nat.le_trans Z0 K37_.1) p37__1 p37__2 p37__3 p37__4 p37__5 p37__6 p37__7 p37__8 p37__9 p37__10 ge_b1_ ge_v_2_ ge_g_2_ ge_s_2_ ge_b_2_ p2__5 p2__6 p2__7 p2__8 p2__9 p2__10 (Ne.symm ne3_) (Ne.symm ne4_) (Ne.symm ne5_) (Ne.symm ne6_) hbi (i2d_fin p5).noNaN rfl (dadd_out (by rw [own_missD (Ne.symm hne)]; exact own_zf.noNaN) (i2d_fin p5)) rfl (dadd_out (by rw [own_missD (Ne.symm hne)]; exact own_zf.noNaN) (own_abf (i2d_fin p5))) (own_1in hai hbi hne) (own_miss (Ne.symm hne))) hZ (hw _ (List.mem_of_getElem? (i := 26) rfl)) (hw _ (List.mem_of_getElem? (i := 4) rfl)) (by decide) (by decide)) q43_a q43_c (g := (mkF mM 74 #[.val (.int p1), .val (.int p2), .val (.int p3), .val (.int p4), .val (.int p5), .val (.int p6), .val (.int z), .val (.int av), .val (.int bv), .val (.int (3 : Int32)), .val (.double (4787326403894837248 : UInt64)), .second, .val (.ref b1_), .unset] [(.double (FP.i2d p5)), (.int bv), (.ref b1_)])) rfl (by rw [hml]; rfl) (Steps.refl _) (argsL := [(.int bv), (.double (FP.i2d p5))]) (rest := []) (lenOf own_pd4 rfl) rfl (by show 2 * 0 + _ ≤ _; exact Nat.le_of_eq rfl) (Jvm.hb hby at_74) (fun _ _ => ⟨rfl, rfl, (by decide : 5 + 0 ≤ _), (by decide : 21 + 0 ≤ _)⟩)
      dsimp only [Pt.U, Pt.locs, Pt.cells, Pt.slots] at X43_ l43_ y43_ z43_ st43_ hQ43_
      subst l43_ y43_ z43_
      obtain ⟨rfl, N43_q, p43__0, p43__1, p43__2, p43__3, p43__4, p43__5, p43__6, p43__7, p43__8, p43__9, p43__10⟩ := hQ43_
      have N43_ := Fr.app N37_ N43_q
      have fc44_ := p37__1.keep p43__0
      have K43_ := K37_.trans p43__0 (allS (Or.inr sz_b1_) (allS (Or.inr sz_v_2_) (allS (Or.inr sz_g_2_) (allS (Or.inr sz_s_2_) (allS (Or.inr sz_b_2_) all0)))))
      refine own_fin (fun tT kK => st43_.trans kK) ?_
      show own_Fin pP eE below _ (T43_.setTop (mkF mM 77 #[.val (.int p1), .val (.int p2), .val (.int p3), .val (.int p4), .val (.int p5), .val (.int p6), .val (.int z), .val (.int av), .val (.int bv), .val (.int (3 : Int32)), .val (.double (4787326403894837248 : UInt64)), .second, .val (.ref b1_), .unset] []))
      refine own_fin (b := T43_.setTop (mkF mM 90 #[.val (.int p1), .val (.int p2), .val (.int p3), .val (.int p4), .val (.int p5), .val (.int p6), .val (.int z), .val (.int av), .val (.int bv), .val (.int (3 : Int32)), .val (.double (4787326403894837248 : UInt64)), .second, .val (.ref b1_), .unset] [(.double (FP.dneg (4787326403894837248 : UInt64))), (.int av), (.ref b1_)])) (fun tT kK => ?_) ?_
      · show Steps pP.tables eE below (T43_.setTop (mkF mM 77 #[.val (.int p1), .val (.int p2), .val (.int p3), .val (.int p4), .val (.int p5), .val (.int p6), .val (.int z), .val (.int av), .val (.int bv), .val (.int (3 : Int32)), .val (.double (4787326403894837248 : UInt64)), .second, .val (.ref b1_), .unset] [])) tT
        refine XS.iload X43_.here hx rfl (Jvm.hb hby at_77) rfl ?_
        show Steps pP.tables eE below (T43_.setTop (mkF mM 79 #[.val (.int p1), .val (.int p2), .val (.int p3), .val (.int p4), .val (.int p5), .val (.int p6), .val (.int z), .val (.int av), .val (.int bv), .val (.int (3 : Int32)), .val (.double (4787326403894837248 : UInt64)), .second, .val (.ref b1_), .unset] [(.int (3 : Int32))])) tT
        refine XS.iconst X43_.here hx rfl (Jvm.hb hby at_79) ?_
        show Steps pP.tables eE below (T43_.setTop (mkF mM 80 #[.val (.int p1), .val (.int p2), .val (.int p3), .val (.int p4), .val (.int p5), .val (.int p6), .val (.int z), .val (.int av), .val (.int bv), .val (.int (3 : Int32)), .val (.double (4787326403894837248 : UInt64)), .second, .val (.ref b1_), .unset] [(.int (3 : Int32)), (.int (3 : Int32))])) tT
        refine XS.icmpNo X43_.here hx rfl (Jvm.hb hby at_80) rfl (flt ((by decide) : ¬ ((3 : Int32) < (3 : Int32)))).1 ?_
        show Steps pP.tables eE below (T43_.setTop (mkF mM 83 #[.val (.int p1), .val (.int p2), .val (.int p3), .val (.int p4), .val (.int p5), .val (.int p6), .val (.int z), .val (.int av), .val (.int bv), .val (.int (3 : Int32)), .val (.double (4787326403894837248 : UInt64)), .second, .val (.ref b1_), .unset] [])) tT
        refine XS.aload X43_.here hx rfl (Jvm.hb hby at_83) rfl rfl ?_
        show Steps pP.tables eE below (T43_.setTop (mkF mM 85 #[.val (.int p1), .val (.int p2), .val (.int p3), .val (.int p4), .val (.int p5), .val (.int p6), .val (.int z), .val (.int av), .val (.int bv), .val (.int (3 : Int32)), .val (.double (4787326403894837248 : UInt64)), .second, .val (.ref b1_), .unset] [(.ref b1_)])) tT
        refine XS.iload X43_.here hx rfl (Jvm.hb hby at_85) rfl ?_
        show Steps pP.tables eE below (T43_.setTop (mkF mM 87 #[.val (.int p1), .val (.int p2), .val (.int p3), .val (.int p4), .val (.int p5), .val (.int p6), .val (.int z), .val (.int av), .val (.int bv), .val (.int (3 : Int32)), .val (.double (4787326403894837248 : UInt64)), .second, .val (.ref b1_), .unset] [(.int av), (.ref b1_)])) tT
        refine XS.dload X43_.here hx rfl (Jvm.hb hby at_87) rfl ?_
        show Steps pP.tables eE below (T43_.setTop (mkF mM 89 #[.val (.int p1), .val (.int p2), .val (.int p3), .val (.int p4), .val (.int p5), .val (.int p6), .val (.int z), .val (.int av), .val (.int bv), .val (.int (3 : Int32)), .val (.double (4787326403894837248 : UInt64)), .second, .val (.ref b1_), .unset] [(.double (4787326403894837248 : UInt64)), (.int av), (.ref b1_)])) tT
        refine XS.dnegS X43_.here hx rfl (Jvm.hb hby at_89) rfl (v := (FP.dneg (4787326403894837248 : UInt64))) rfl ?_
        show Steps pP.tables eE below (T43_.setTop (mkF mM 90 #[.val (.int p1), .val (.int p2), .val (.int p3), .val (.int p4), .val (.int p5), .val (.int p6), .val (.int z), .val (.int av), .val (.int bv), .val (.int (3 : Int32)), .val (.double (4787326403894837248 : UInt64)), .second, .val (.ref b1_), .unset] [(.double (FP.dneg (4787326403894837248 : UInt64))), (.int av), (.ref b1_)])) tT
        exact kK
      obtain ⟨cq45_, kq45_, q45_a, q45_b, q45_c⟩ := isOf hZ rfl p43__1
      obtain ⟨_, _, ⟨T45_, L45_, k45_, n45_⟩, -, X45_, ⟨Lc45_, hQ45_, l45_, y45_, z45_⟩, st45_⟩ := X43_.virtualBack hx (y := (⟨"com/example/chains_to_rank/chainstorank/ranker/Scores", "add", "(ID)V"⟩ : MethodName)) (z := (⟨"com/example/chains_to_rank/chainstorank/ranker/Scores", "add", "(ID)V"⟩ : MethodName)) hown (mvT hZ (hw _ (List.mem_of_getElem? (i := 22) rfl))) (mvT hZ (hw _ (List.mem_of_getElem? (i := 23) rfl))) (notFace_of_selects (args := #[]) (mvT hZ (hw _ (List.mem_of_getElem? (i := 25) rfl)))) (mvT hZ (hw _ (List.mem_of_getElem? (i := 25) rfl))) (mvT hZ (hw _ (List.mem_of_getElem? (i := 24) rfl))) (by decide) (backOf (W := 0) (rm_add0 lL Z a0 hw [] b1_ v_2_ g_2_ s_2_ b_2_ z av (FP.dneg (4787326403894837248 : UInt64)) (((0 : Int32) + (1 : Int32)) + (1 : Int32)) (FP.dadd ((own_upD (own_upD (fun _ => (0 : UInt64)) av (FP.dadd ((fun _ => (0 : UInt64)) av) (4787326403894837248 : UInt64))) bv (FP.dadd ((own_upD (fun _ => (0 : UInt64)) av (FP.dadd ((fun _ => (0 : UInt64)) av) (4787326403894837248 : UInt64))) bv) (FP.i2d p5))) av) (FP.dneg (4787326403894837248 : UInt64))) (FP.dadd ((own_upD (own_upD (fun _ => (0 : UInt64)) av (FP.dadd ((fun _ => (0 : UInt64)) av) (own_ab (4787326403894837248 : UInt64)))) bv (FP.dadd ((own_upD (fun _ => (0 : UInt64)) av (FP.dadd ((fun _ => (0 : UInt64)) av) (own_ab (4787326403894837248 : UInt64)))) bv) (own_ab (FP.i2d p5)))) av) (own_ab (FP.dneg (4787326403894837248 : UInt64)))) (own_upD (own_upD (fun _ => (0 : UInt64)) av (FP.dadd ((fun _ => (0 : UInt64)) av) (4787326403894837248 : UInt64))) bv (FP.dadd ((own_upD (fun _ => (0 : UInt64)) av (FP.dadd ((fun _ => (0 : UInt64)) av) (4787326403894837248 : UInt64))) bv) (FP.i2d p5))) (own_upD (own_upD (fun _ => (0 : UInt64)) av (FP.dadd ((fun _ => (0 : UInt64)) av) (own_ab (4787326403894837248 : UInt64)))) bv (FP.dadd ((own_upD (fun _ => (0 : UInt64)) av (FP.dadd ((fun _ => (0 : UInt64)) av) (own_ab (4787326403894837248 : UInt64)))) bv) (own_ab (FP.i2d p5)))) (own_up (own_up (fun _ => (0 : Int32)) (0 : Int32) av) ((0 : Int32) + (1 : Int32)) bv) (own_up (own_up (fun _ => (0 : Int32)) av (1 : Int32)) bv (1 : Int32)) T43_.heap n0 (Nat.le_trans Z0 K43_.1) p43__1 p43__2 p43__3 p43__4 p43__5 p43__6 p43__7 p43__8 p43__9 p43__10 ge_b1_ ge_v_2_ ge_g_2_ ge_s_2_ ge_b_2_ p2__5 p2__6 p2__7 p2__8 p2__9 p2__10 (Ne.symm ne3_) (Ne.symm ne4_) (Ne.symm ne5_) (Ne.symm ne6_) hai own_nbf.noNaN rfl (dadd_out (by rw [own_missD hne, own_hitD]; exact (dadd_out own_zf.noNaN own_bigf)) own_nbf) rfl (dadd_out (by rw [own_missD hne, own_hitD]; exact (dadd_out own_zf.noNaN (own_abf own_bigf))) (own_abf own_nbf)) (by rw [own_miss hne, own_hit]; decide)) hZ (hw _ (List.mem_of_getElem? (i := 26) rfl)) (hw _ (List.mem_of_getElem? (i := 4) rfl)) (by decide) (by decide)) q45_a q45_c (g := (mkF mM 90 #[.val (.int p1), .val (.int p2), .val (.int p3), .val (.int p4), .val (.int p5), .val (.int p6), .val (.int z), .val (.int av), .val (.int bv), .val (.int (3 : Int32)), .val (.double (4787326403894837248 : UInt64)), .second, .val (.ref b1_), .unset] [(.double (FP.dneg (4787326403894837248 : UInt64))), (.int av), (.ref b1_)])) rfl (by rw [hml]; rfl) (Steps.refl _) (argsL := [(.int av), (.double (FP.dneg (4787326403894837248 : UInt64)))]) (rest := []) (lenOf own_pd4 rfl) rfl (by show 2 * 0 + _ ≤ _; exact Nat.le_of_eq rfl) (Jvm.hb hby at_90) (fun _ _ => ⟨rfl, rfl, (by decide : 5 + 0 ≤ _), (by decide : 21 + 0 ≤ _)⟩)
      dsimp only [Pt.U, Pt.locs, Pt.cells, Pt.slots] at X45_ l45_ y45_ z45_ st45_ hQ45_
      subst l45_ y45_ z45_
      obtain ⟨rfl, N45_q, p45__0, p45__1, p45__2, p45__3, p45__4, p45__5, p45__6, p45__7, p45__8, p45__9, p45__10⟩ := hQ45_
      have N45_ := Fr.app N43_ N45_q
      have fc46_ := p43__1.keep p45__0
      have K45_ := K43_.trans p45__0 (allS (Or.inr sz_b1_) (allS (Or.inr sz_v_2_) (allS (Or.inr sz_g_2_) (allS (Or.inr sz_s_2_) (allS (Or.inr sz_b_2_) all0)))))
      refine own_fin (fun tT kK => st45_.trans kK) ?_
      show own_Fin pP eE below _ (T45_.setTop (mkF mM 93 #[.val (.int p1), .val (.int p2), .val (.int p3), .val (.int p4), .val (.int p5), .val (.int p6), .val (.int z), .val (.int av), .val (.int bv), .val (.int (3 : Int32)), .val (.double (4787326403894837248 : UInt64)), .second, .val (.ref b1_), .unset] []))
      show own_Fin pP eE below _ (T45_.setTop (mkF mM 93 #[.val (.int p1), .val (.int p2), .val (.int p3), .val (.int p4), .val (.int p5), .val (.int p6), .val (.int z), .val (.int av), .val (.int bv), .val (.int (3 : Int32)), .val (.double (4787326403894837248 : UInt64)), .second, .val (.ref b1_), .unset] []))
      exact jp8_ (((0 : Int32) + (1 : Int32)) + (1 : Int32)) (own_up (own_up (fun _ => (0 : Int32)) (0 : Int32) av) ((0 : Int32) + (1 : Int32)) bv) (own_up (own_up (fun _ => (0 : Int32)) av (1 : Int32)) bv (1 : Int32)) (own_upD (own_upD (own_upD (fun _ => (0 : UInt64)) av (FP.dadd ((fun _ => (0 : UInt64)) av) (4787326403894837248 : UInt64))) bv (FP.dadd ((own_upD (fun _ => (0 : UInt64)) av (FP.dadd ((fun _ => (0 : UInt64)) av) (4787326403894837248 : UInt64))) bv) (FP.i2d p5))) av (FP.dadd ((own_upD (own_upD (fun _ => (0 : UInt64)) av (FP.dadd ((fun _ => (0 : UInt64)) av) (4787326403894837248 : UInt64))) bv (FP.dadd ((own_upD (fun _ => (0 : UInt64)) av (FP.dadd ((fun _ => (0 : UInt64)) av) (4787326403894837248 : UInt64))) bv) (FP.i2d p5))) av) (FP.dneg (4787326403894837248 : UInt64)))) (own_upD (own_upD (own_upD (fun _ => (0 : UInt64)) av (FP.dadd ((fun _ => (0 : UInt64)) av) (own_ab (4787326403894837248 : UInt64)))) bv (FP.dadd ((own_upD (fun _ => (0 : UInt64)) av (FP.dadd ((fun _ => (0 : UInt64)) av) (own_ab (4787326403894837248 : UInt64)))) bv) (own_ab (FP.i2d p5)))) av (FP.dadd ((own_upD (own_upD (fun _ => (0 : UInt64)) av (FP.dadd ((fun _ => (0 : UInt64)) av) (own_ab (4787326403894837248 : UInt64)))) bv (FP.dadd ((own_upD (fun _ => (0 : UInt64)) av (FP.dadd ((fun _ => (0 : UInt64)) av) (own_ab (4787326403894837248 : UInt64)))) bv) (own_ab (FP.i2d p5)))) av) (own_ab (FP.dneg (4787326403894837248 : UInt64))))) _ _ _ (own_inv2c hai hbi (own_0in hzb) (own_1in hai hbi hne)) X45_ rfl K45_ p45__1 p45__2 p45__3 p45__4 p45__5 p45__6 p45__7 p45__8 p45__9 p45__10 N45_
set_option maxRecDepth 65536 in
set_option maxHeartbeats 40000000 in
theorem comes_1 {Post : Tables → Env → Array Value → State → Outcome → State → Prop} (hpost : ∀ tb e args s v u, (limb_1_1.after args s (.returned v) u = true ∧ limb_1_2.after args s (.returned v) u = true ∧ True) → FrameEnd s (.returned v) u (Jvm.fieldLocs frame_1_writes args s ++ Jvm.arrayLocs frame_1_arrays args s ++ Jvm.staticLocs frame_1_statics s) 24 128 → Post tb e args s (.returned v) u) :
    ArmFor flags0 classFile x code maxLocals ret World_1 tables_1 room_1 Calls_1 rest_1 Pre_1 Post := by
  intro l hfl _ _ p e ha hc hk s m args below hf hA hF happ hP
  obtain ⟨hcalls, hrest, hpre⟩ := hP
  obtain ⟨-, -, -, hnamed, -, -, -, hat⟩ := (Spec.applies_iff hf).mp happ
  obtain ⟨hg, hn⟩ := and_e (Cond.before_iff.mp (show (Jvm.Cond.and given_1 narrow_1).before args s = true from hpre))
  obtain ⟨gg1, gg2⟩ := and_e hg
  obtain ⟨gg3, gg4⟩ := and_e gg2
  obtain ⟨gg5, gg6⟩ := and_e gg4
  obtain ⟨gg7, gg8⟩ := and_e gg6
  obtain ⟨gg9, gg10⟩ := and_e gg8
  obtain ⟨gg11, gg12⟩ := and_e gg10
  obtain ⟨w0, w1, w2, w3, w4, w5, rfl⟩ : ∃ w0 w1 w2 w3 w4 w5 : Value, args = #[w0, w1, w2, w3, w4, w5] := by
    have hs : args.size = 6 := by simpa [Cond.value, given_1] using gg1
    obtain ⟨L⟩ := args
    match L, hs with
    | [w0, w1, w2, w3, w4, w5], _ => exact ⟨w0, w1, w2, w3, w4, w5, rfl⟩
  have hw := fun d (hd : d ∈ tables_1) => atoms_spec (ws := Jvm.Cond.code x code maxLocals ret :: tables_1) hat d (List.mem_cons_of_mem _ hd)
  have hfit : Fit s := fun {y c} hc i hi => by
    obtain ⟨ha, rfl⟩ := Array.getElem?_eq_some_iff.mp hc
    have q := List.all_eq_true.mp ((Array.all_eq_true_iff_forall_mem.mp hF) _ (Array.getElem_mem ha)) i (List.mem_range.mpr hi)
    simpa [Array.getElem?_eq_getElem hi] using q
  obtain ⟨i0, ei0⟩ := is_v gg3
  obtain rfl : w0 = (.int i0) := Option.some.inj ei0
  obtain ⟨i1, ei1⟩ := is_v gg5
  obtain rfl : w1 = (.int i1) := Option.some.inj ei1
  obtain ⟨i2, ei2⟩ := is_v gg7
  obtain rfl : w2 = (.int i2) := Option.some.inj ei2
  obtain ⟨i3, ei3⟩ := is_v gg9
  obtain rfl : w3 = (.int i3) := Option.some.inj ei3
  obtain ⟨i4, ei4⟩ := is_v gg11
  obtain rfl : w4 = (.int i4) := Option.some.inj ei4
  obtain ⟨i5, ei5⟩ := is_v gg12
  obtain rfl : w5 = (.int i5) := Option.some.inj ei5
  obtain ⟨n, o, h1, h2, h3, _, L, rfl, ⟨rfl, N⟩, hq⟩ := rm0 l s _ hw tables_1 i0 i1 i2 i3 i4 i5 s.heap s.heap.size (Nat.le_refl _)  p e ha hc hk s m _ below hf ((Spec.applies_iff_loose hf).mp happ).1 ⟨rfl, State.Warmed39.refl s, rfl⟩ trivial
  refine ⟨n, _, h1, h2, h3, hpost _ _ _ _ _ _ ⟨Cond.after_iff.mpr rfl, Cond.after_iff.mpr (eq_i res_at (Term.int_eval (1)) rfl), trivial⟩ ⟨hq.1, hq.2.1, (hq.2.2.sift fun y hy => Or.inr (N y hy)).mono (by decide) (by decide)⟩⟩
theorem main_1_1 : Claimed_1_1 := comes_1 fun _ _ _ _ _ _ h hF => ⟨h.1, hF⟩
theorem main_1_2 : Claimed_1_2 := comes_1 fun _ _ _ _ _ _ h hF => ⟨h.2.1, hF⟩
end Jvm.Pilot.@@N@@
namespace Jvm.Pilot.@@N@@
open Jvm Jvm.ClassFile Sem Op Lib Jvm.Free Jvm.Stand Jvm.Pilot.@@N@@.Jvm.D
/-! MADE BY PROGRAM (witnessworld.py) out of the Statement's table words and the real class files: 14 classes; the members and pool entries that the words name. The judged class is class 1, her method 1. -/
namespace start1
open Jvm.ClassFile
def u (s : String) : CpInfo := .utf8 (stringToUtf16 s)
/-- a pool by its gaps: so many unusable entries, then the entry; so many at the end -/
def gap : Nat → List CpInfo → List CpInfo
  | 0, r => r
  | n + 1, r => .unusable :: gap n r
def poolList (es : List (Nat × CpInfo)) (last : Nat) : List CpInfo := es.foldr (fun e r => gap e.1 (e.2 :: r)) (gap last [])
def pool (es : List (Nat × CpInfo)) (last : Nat) : Array CpInfo := ⟨poolList es last⟩
def fileOf (pool : Array CpInfo) (this : Nat) (attrs : Array Attribute := #[]) (ms : Array MethodInfo := #[]) (fl : Nat := 33) (sup : Nat := 0) (ifs : Array Nat := #[]) (fds : Array FieldInfo := #[]) : ClassFile where
  minorVersion := 0
  majorVersion := 65
  constantPool := pool
  accessFlags := fl
  thisClass := this
  superClass := sup
  interfaces := ifs
  fields := fds
  methods := ms
  attributes := attrs
def plain (name : String) (sup : Option ClassId) : Class where
  name := name
  kind := .ordinary
  loader := none
  accessFlags := 33
  super := sup
  interfaces := #[]
  cf := none
  fields := #[]
  methods := #[]
  instanceTypes := #[]
  staticTypes := #[]
  resolved := #[]
  callSites := []
  init := .initialized
  statics := none
  mirror := none

def pool0 : Array CpInfo := pool [(5, u "<init>"), (0, u "()V"), (1, .class_ 10), (1, u "java/lang/Object")] 113

def k0c0 : Code := { maxStack := 0, maxLocals := 1, code := object_method_1_code, exceptionTable := #[], attributes := #[] }
def k0m0 : Method := { name := "<init>", desc := "()V", sig := { parameters := [], returnType := none }, accessFlags := 1, code := some k0c0 }
/-- java/lang/Object -/
def k0 : Class := { plain "java/lang/Object" none with
  accessFlags := 33
  interfaces := #[]
  cf := some (fileOf pool0 8 #[] #[{ accessFlags := 1, nameIndex := 5, descriptorIndex := 6, attributes := #[] }] 33 0 #[] #[])
  fields := #[]
  methods := #[k0m0]
  instanceTypes := #[]
  staticTypes := #[]
  resolved := Array.replicate 124 none
  statics := none }

def pool1 : Array CpInfo := pool [(2, .class_ 4), (1, u "java/lang/Object"), (0, u "<init>"), (0, u "()V"), (0, .integer 2147483647), (0, .double 4787326403894837248), (1, .class_ 11), (0, u "com/example/chains_to_rank/chainstorank/ranker/Scores"), (0, .methodref 10 13), (0, .nameAndType 5 14), (0, u "(I)V"), (0, .methodref 10 16), (0, .nameAndType 17 18), (0, u "add"), (0, u "(ID)V"), (0, .methodref 10 20), (0, .nameAndType 21 6), (0, u "clear"), (0, .methodref 10 23), (0, .nameAndType 24 25), (0, u "scoredCount"), (0, u "()I"), (0, .methodref 10 27), (0, .nameAndType 28 29), (0, u "scored"), (0, u "(I)I"), (0, .methodref 10 31), (0, .nameAndType 32 33), (0, u "value"), (0, u "(I)D"), (0, .methodref 10 35), (0, .nameAndType 36 37), (0, u "isSameAsUnscored"), (0, u "(I)Z"), (0, .methodref 10 39), (0, .nameAndType 40 37), (0, u "isScored"), (0, .class_ 42), (0, u "com/example/chains_to_rank/chainstorank/ranker/ScoresClearPinLaw"), (2, u "law"), (0, u "(IIIIII)Z")] 3

def k1m0 : Method := { name := "<init>", desc := "()V", sig := { parameters := [], returnType := none }, accessFlags := 1, code := none }
def k1c1 : Code := { maxStack := 4, maxLocals := 14, code := code, exceptionTable := #[], attributes := #[] }
def k1m1 : Method := { name := "law", desc := "(IIIIII)Z", sig := { parameters := [.int, .int, .int, .int, .int, .int], returnType := some .boolean }, accessFlags := 9, code := some k1c1 }
/-- com/example/chains_to_rank/chainstorank/ranker/ScoresClearPinLaw -/
def k1 : Class := { plain "com/example/chains_to_rank/chainstorank/ranker/ScoresClearPinLaw" (some 0) with
  accessFlags := 49
  interfaces := #[]
  cf := some (fileOf pool1 41 #[] #[{ accessFlags := 1, nameIndex := 5, descriptorIndex := 6, attributes := #[] }, { accessFlags := 9, nameIndex := 45, descriptorIndex := 46, attributes := #[] }] 49 2 #[] #[])
  fields := #[]
  methods := #[k1m0, k1m1]
  instanceTypes := #[]
  staticTypes := #[]
  resolved := Array.replicate 50 none
  statics := none }

def pool2 : Array CpInfo := pool [(1, .methodref 2 3), (0, .class_ 4), (0, .nameAndType 5 6), (0, u "java/lang/Object"), (0, u "<init>"), (0, u "()V"), (0, .fieldref 8 9), (0, .class_ 10), (0, .nameAndType 11 12), (0, u "com/example/chains_to_rank/chainstorank/ranker/Scores"), (0, u "values"), (0, u "[D"), (0, .fieldref 8 14), (0, .nameAndType 15 12), (0, u "magnitudes"), (0, .fieldref 8 17), (0, .nameAndType 18 19), (0, u "scored"), (0, u "[I"), (0, .fieldref 8 21), (0, .nameAndType 22 23), (0, u "isScored"), (0, u "[Z"), (0, .fieldref 8 25), (0, .nameAndType 26 27), (0, u "scoredCount"), (0, u "I"), (0, .methodref 29 30), (0, .class_ 31), (0, .nameAndType 32 33), (0, u "java/lang/Math"), (0, u "abs"), (0, u "(D)D"), (0, .methodref 8 35), (0, .nameAndType 36 37), (0, u "isSame"), (0, u "(DDDD)Z"), (0, .double 4457293557087583675), (1, .methodref 29 41), (0, .nameAndType 42 43), (0, u "max"), (0, u "(DD)D"), (0, u "SAME_SCORE"), (0, u "D"), (1, u "(I)V"), (2, u "add"), (0, u "(ID)V"), (1, u "value"), (0, u "(I)D"), (1, u "()I"), (0, u "(I)I"), (0, u "(I)Z"), (1, u "isSameAsUnscored"), (0, u "clear")] 2

def k2c0 : Code := { maxStack := 2, maxLocals := 2, code := prog_88_method_1_code, exceptionTable := #[], attributes := #[] }
def k2m0 : Method := { name := "<init>", desc := "(I)V", sig := { parameters := [.int], returnType := none }, accessFlags := 1, code := some k2c0 }
def k2c1 : Code := { maxStack := 6, maxLocals := 4, code := prog_88_method_2_code, exceptionTable := #[], attributes := #[] }
def k2m1 : Method := { name := "add", desc := "(ID)V", sig := { parameters := [.int, .double], returnType := none }, accessFlags := 1, code := some k2c1 }
def k2c2 : Code := { maxStack := 2, maxLocals := 2, code := prog_88_method_3_code, exceptionTable := #[], attributes := #[] }
def k2m2 : Method := { name := "value", desc := "(I)D", sig := { parameters := [.int], returnType := some .double }, accessFlags := 1, code := some k2c2 }
def k2c3 : Code := { maxStack := 1, maxLocals := 1, code := prog_88_method_5_code, exceptionTable := #[], attributes := #[] }
def k2m3 : Method := { name := "scoredCount", desc := "()I", sig := { parameters := [], returnType := some .int }, accessFlags := 0, code := some k2c3 }
def k2c4 : Code := { maxStack := 2, maxLocals := 2, code := prog_88_method_6_code, exceptionTable := #[], attributes := #[] }
def k2m4 : Method := { name := "scored", desc := "(I)I", sig := { parameters := [.int], returnType := some .int }, accessFlags := 0, code := some k2c4 }
def k2c5 : Code := { maxStack := 2, maxLocals := 2, code := prog_88_method_7_code, exceptionTable := #[], attributes := #[] }
def k2m5 : Method := { name := "isScored", desc := "(I)Z", sig := { parameters := [.int], returnType := some .boolean }, accessFlags := 0, code := some k2c5 }
def k2c6 : Code := { maxStack := 8, maxLocals := 2, code := prog_88_method_9_code, exceptionTable := #[], attributes := #[] }
def k2m6 : Method := { name := "isSameAsUnscored", desc := "(I)Z", sig := { parameters := [.int], returnType := some .boolean }, accessFlags := 0, code := some k2c6 }
def k2c7 : Code := { maxStack := 8, maxLocals := 8, code := prog_88_method_10_code, exceptionTable := #[], attributes := #[] }
def k2m7 : Method := { name := "isSame", desc := "(DDDD)Z", sig := { parameters := [.double, .double, .double, .double], returnType := some .boolean }, accessFlags := 10, code := some k2c7 }
def k2c8 : Code := { maxStack := 4, maxLocals := 3, code := prog_88_method_11_code, exceptionTable := #[], attributes := #[] }
def k2m8 : Method := { name := "clear", desc := "()V", sig := { parameters := [], returnType := none }, accessFlags := 0, code := some k2c8 }
/-- com/example/chains_to_rank/chainstorank/ranker/Scores -/
def k2 : Class := { plain "com/example/chains_to_rank/chainstorank/ranker/Scores" (some 0) with
  accessFlags := 33
  interfaces := #[]
  cf := some (fileOf pool2 8 #[] #[{ accessFlags := 1, nameIndex := 5, descriptorIndex := 47, attributes := #[] }, { accessFlags := 1, nameIndex := 50, descriptorIndex := 51, attributes := #[] }, { accessFlags := 1, nameIndex := 53, descriptorIndex := 54, attributes := #[] }, { accessFlags := 0, nameIndex := 26, descriptorIndex := 56, attributes := #[] }, { accessFlags := 0, nameIndex := 18, descriptorIndex := 57, attributes := #[] }, { accessFlags := 0, nameIndex := 22, descriptorIndex := 58, attributes := #[] }, { accessFlags := 0, nameIndex := 60, descriptorIndex := 58, attributes := #[] }, { accessFlags := 10, nameIndex := 36, descriptorIndex := 37, attributes := #[] }, { accessFlags := 0, nameIndex := 61, descriptorIndex := 6, attributes := #[] }] 33 2 #[] #[{ accessFlags := 24, nameIndex := 44, descriptorIndex := 45, attributes := #[] }, { accessFlags := 18, nameIndex := 11, descriptorIndex := 12, attributes := #[] }, { accessFlags := 18, nameIndex := 15, descriptorIndex := 12, attributes := #[] }, { accessFlags := 18, nameIndex := 18, descriptorIndex := 19, attributes := #[] }, { accessFlags := 18, nameIndex := 22, descriptorIndex := 23, attributes := #[] }, { accessFlags := 2, nameIndex := 26, descriptorIndex := 27, attributes := #[] }])
  fields := #[{ name := "SAME_SCORE", type := .double, accessFlags := 24, slot := 0, constantValue := 0 }, { name := "values", type := (.array .double), accessFlags := 18, slot := 0, constantValue := 0 }, { name := "magnitudes", type := (.array .double), accessFlags := 18, slot := 1, constantValue := 0 }, { name := "scored", type := (.array .int), accessFlags := 18, slot := 2, constantValue := 0 }, { name := "isScored", type := (.array .boolean), accessFlags := 18, slot := 3, constantValue := 0 }, { name := "scoredCount", type := .int, accessFlags := 2, slot := 4, constantValue := 0 }]
  methods := #[k2m0, k2m1, k2m2, k2m3, k2m4, k2m5, k2m6, k2m7, k2m8]
  instanceTypes := #[(.array .double), (.array .double), (.array .int), (.array .boolean), .int]
  staticTypes := #[.double]
  resolved := Array.replicate 64 none
  statics := none }

def pool3 : Array CpInfo := pool [(1, .class_ 2), (0, u "java/lang/Math"), (1, .class_ 6), (1, u "java/lang/Object"), (0, u "<init>"), (0, u "()V"), (5, u "(D)D"), (37, u "(DD)D"), (45, .class_ 100), (1, u "java/lang/Math$RandomNumberGeneratorHolder"), (23, u "abs"), (47, u "negativeZeroFloatBits"), (0, u "J"), (2, u "negativeZeroDoubleBits"), (21, u "max"), (46, u "$assertionsDisabled"), (0, u "Z"), (91, u "twoToTheDoubleScaleDown"), (0, u "D"), (4, u "twoToTheDoubleScaleUp"), (9, u "E"), (3, u "PI"), (2, u "TAU"), (2, u "DEGREES_TO_RADIANS"), (0, u "RADIANS_TO_DEGREES")] 94

def k3m0 : Method := { name := "<init>", desc := "()V", sig := { parameters := [], returnType := none }, accessFlags := 2, code := none }
def k3c1 : Code := { maxStack := 4, maxLocals := 2, code := jdk_29_method_64_code, exceptionTable := #[], attributes := #[] }
def k3m1 : Method := { name := "abs", desc := "(D)D", sig := { parameters := [.double], returnType := some .double }, accessFlags := 9, code := some k3c1 }
def k3c2 : Code := { maxStack := 4, maxLocals := 4, code := jdk_29_method_68_code, exceptionTable := #[], attributes := #[] }
def k3m2 : Method := { name := "max", desc := "(DD)D", sig := { parameters := [.double, .double], returnType := some .double }, accessFlags := 9, code := some k3c2 }
/-- java/lang/Math -/
def k3 : Class := { plain "java/lang/Math" (some 0) with
  accessFlags := 49
  interfaces := #[]
  cf := some (fileOf pool3 1 #[.nestMembers #[98]] #[{ accessFlags := 2, nameIndex := 7, descriptorIndex := 8, attributes := #[] }, { accessFlags := 9, nameIndex := 124, descriptorIndex := 14, attributes := #[] }, { accessFlags := 9, nameIndex := 198, descriptorIndex := 52, attributes := #[] }] 49 4 #[] #[{ accessFlags := 25, nameIndex := 354, descriptorIndex := 339, attributes := #[] }, { accessFlags := 25, nameIndex := 358, descriptorIndex := 339, attributes := #[] }, { accessFlags := 25, nameIndex := 361, descriptorIndex := 339, attributes := #[] }, { accessFlags := 26, nameIndex := 364, descriptorIndex := 339, attributes := #[] }, { accessFlags := 26, nameIndex := 365, descriptorIndex := 339, attributes := #[] }, { accessFlags := 26, nameIndex := 172, descriptorIndex := 173, attributes := #[] }, { accessFlags := 26, nameIndex := 176, descriptorIndex := 173, attributes := #[] }, { accessFlags := 8, nameIndex := 344, descriptorIndex := 339, attributes := #[] }, { accessFlags := 8, nameIndex := 338, descriptorIndex := 339, attributes := #[] }, { accessFlags := 4120, nameIndex := 245, descriptorIndex := 246, attributes := #[] }])
  fields := #[{ name := "E", type := .double, accessFlags := 25, slot := 0, constantValue := 0 }, { name := "PI", type := .double, accessFlags := 25, slot := 1, constantValue := 0 }, { name := "TAU", type := .double, accessFlags := 25, slot := 2, constantValue := 0 }, { name := "DEGREES_TO_RADIANS", type := .double, accessFlags := 26, slot := 3, constantValue := 0 }, { name := "RADIANS_TO_DEGREES", type := .double, accessFlags := 26, slot := 4, constantValue := 0 }, { name := "negativeZeroFloatBits", type := .long, accessFlags := 26, slot := 5, constantValue := 0 }, { name := "negativeZeroDoubleBits", type := .long, accessFlags := 26, slot := 6, constantValue := 0 }, { name := "twoToTheDoubleScaleUp", type := .double, accessFlags := 8, slot := 7, constantValue := 0 }, { name := "twoToTheDoubleScaleDown", type := .double, accessFlags := 8, slot := 8, constantValue := 0 }, { name := "$assertionsDisabled", type := .boolean, accessFlags := 4120, slot := 9, constantValue := 0 }]
  methods := #[k3m0, k3m1, k3m2]
  instanceTypes := #[]
  staticTypes := #[.double, .double, .double, .double, .double, .long, .long, .double, .double, .boolean]
  resolved := Array.replicate 460 none
  statics := none }

def pool4 : Array CpInfo := pool [(1, u "java/lang/Cloneable"), (0, .class_ 1), (0, u "java/lang/Object"), (0, .class_ 3)] 3

/-- java/lang/Cloneable -/
def k4 : Class := { plain "java/lang/Cloneable" (some 0) with
  accessFlags := 1537
  interfaces := #[]
  cf := some (fileOf pool4 2 #[] #[] 1537 4 #[] #[])
  fields := #[]
  methods := #[]
  instanceTypes := #[]
  staticTypes := #[]
  resolved := Array.replicate 8 none
  statics := none }

def pool5 : Array CpInfo := pool [(1, u "java/io/Serializable"), (0, .class_ 1), (0, u "java/lang/Object"), (0, .class_ 3)] 3

/-- java/io/Serializable -/
def k5 : Class := { plain "java/io/Serializable" (some 0) with
  accessFlags := 1537
  interfaces := #[]
  cf := some (fileOf pool5 2 #[] #[] 1537 4 #[] #[])
  fields := #[]
  methods := #[]
  instanceTypes := #[]
  staticTypes := #[]
  resolved := Array.replicate 8 none
  statics := none }

/-- the primitive boolean -/
def k6 : Class := { plain "boolean" none with kind := .primitive 'Z', accessFlags := 0x411 }
/-- [Z -/
def k7 : Class := { plain "[Z" (some 0) with kind := .array 6 .boolean, interfaces := #[4, 5], accessFlags := 1041 }

/-- the primitive byte -/
def k8 : Class := { plain "byte" none with kind := .primitive 'B', accessFlags := 0x411 }
/-- [B -/
def k9 : Class := { plain "[B" (some 0) with kind := .array 8 .byte, interfaces := #[4, 5], accessFlags := 1041 }

/-- the primitive double -/
def k10 : Class := { plain "double" none with kind := .primitive 'D', accessFlags := 0x411 }
/-- [D -/
def k11 : Class := { plain "[D" (some 0) with kind := .array 10 .double, interfaces := #[4, 5], accessFlags := 1041 }

/-- the primitive int -/
def k12 : Class := { plain "int" none with kind := .primitive 'I', accessFlags := 0x411 }
/-- [I -/
def k13 : Class := { plain "[I" (some 0) with kind := .array 12 .int, interfaces := #[4, 5], accessFlags := 1041 }

def heap : Heap := #[]
def classes : Array Class := #[k0, k1, k2, k3, k4, k5, k6, k7, k8, k9, k10, k11, k12, k13]
def interned : List (Array UInt16 × Addr) := []
def slotsUsed : Nat := 0
def theMethod : MethodId := ⟨1, 1⟩
def args0 : Array Value := #[.int 5, .int 5, .int 5, .int 5, .int 5, .int 5]
def aboutOver (below : List Frame) : State where
  vm := { classes := classes, interned := interned.toArray }
  heap := heap
  slotsUsed := slotsUsed
  threads := #[{ frames := .invoking theMethod args0 :: below }]
def below0 : List Frame := [.native { method := ⟨0, 0⟩, args := #[] }]
def about1 : State := aboutOver below0
def p0 : Program := .bare "" "" ""
def e0 : Env := launch0.env 0 0 0
theorem w_frames : about1.frames = Frame.invoking theMethod args0 :: below0 := rfl
set_option maxRecDepth 65536 in
theorem w_args : argsFit about1.vm theMethod args0 = true := by decide +kernel
set_option maxRecDepth 65536 in
theorem w_heap : heapFits about1 = true := by decide +kernel
set_option maxRecDepth 65536 in
theorem w_runnable : about1.curStatus? = some .runnable := by decide +kernel
set_option maxRecDepth 65536 in
theorem w_alone : about1.alone = true := by decide +kernel
set_option maxRecDepth 65536 in
theorem w_named : about1.methodNamed? x = some theMethod := by decide +kernel
set_option maxRecDepth 65536 in
theorem w_hears : about1.hears theMethod below0 = true := by decide +kernel
set_option maxRecDepth 65536 in
theorem w_ripe : about1.ripe theMethod args0 below0 = true := by decide +kernel
theorem w_running : about1.status = .running := rfl
set_option maxRecDepth 65536 in
theorem w_room : about1.hasRoom e0.platform room_1 = true :=
  launch0.hasRoom_least _ room_1 (by decide +kernel) (by decide +kernel) (by decide +kernel) (by decide +kernel) (by decide +kernel) (by decide +kernel)
theorem allAtoms_all (ts : List Jvm.Cond) (a : Array Jvm.Value) (st : Jvm.State) : (allAtoms ts).before a st = ts.all (fun c => c.before a st) := by
  induction ts with
  | nil => rfl
  | cons c t ih =>
    show (Jvm.Cond.and c (allAtoms t)).before a st = _
    rw [Jvm.Cond.before_and, ih, List.all_cons]
def words1 : List Jvm.Cond := Jvm.Cond.code x code maxLocals ret :: tables_1
/-- a 'code' word, met by the world's own term for the bytes: nothing is compared byte by byte -/
theorem code_word {y : MethodName} {bytes : ByteArray} {mx : Nat} {rt : Option FieldType} {a : Array Value} {s : State} {m : MethodId} {meth : Method} {c : Code} (h1 : s.methodNamed? y = some m) (h2 : s.vm.method? m = some meth) (h3 : meth.code = some c) (h4 : c.code = bytes)
    (h5 : (c.maxLocals == mx && c.exceptionTable.isEmpty && decide (c.maxStack ≤ mostOperands) && decide (meth.sig.returnType = rt) && !meth.locks && decide (parseMethodDescriptor y.desc = some meth.sig)) = true) : (Jvm.Cond.code y bytes mx rt).before a s = true := by
  simp only [Bool.and_eq_true, beq_iff_eq, Bool.not_eq_true', decide_eq_true_eq] at h5
  obtain ⟨⟨⟨⟨⟨g1, g2⟩, g3⟩, g4⟩, g5⟩, g6⟩ := h5
  simp [Cond.before, Cond.holds, Cond.value, h1, h2, h3, h4, g1, g2, g3, g4, g5, g6]
def isCode : Jvm.Cond → Bool
  | .code _ _ _ _ => true
  | _ => false
theorem all_split {L : List Jvm.Cond} {P : Jvm.Cond → Bool} (h1 : L.all (fun c => isCode c || P c) = true) (h2 : ∀ c ∈ L.filter isCode, P c = true) : L.all P = true := by
  refine List.all_eq_true.mpr fun c hc => ?_
  have h := List.all_eq_true.mp h1 c hc
  rcases Bool.eq_false_or_eq_true (isCode c) with hi | hi
  · exact h2 c (List.mem_filter.mpr ⟨hc, hi⟩)
  · simpa [hi] using h
set_option maxRecDepth 65536 in
theorem w_c0 : (Jvm.Cond.code x code maxLocals ret).before args0 about1 = true := code_word (m := ⟨1, 1⟩) (meth := k1m1) (c := k1c1) (by decide +kernel) rfl rfl rfl (by decide +kernel)
set_option maxRecDepth 65536 in
theorem w_c1 : (Jvm.Cond.code ({ cls := "com/example/chains_to_rank/chainstorank/ranker/Scores", name := "<init>", desc := "(I)V" } : Jvm.MethodName) prog_88_method_1_code (2 : Nat) (Option.none : Option Jvm.ClassFile.FieldType)).before args0 about1 = true := code_word (m := ⟨2, 0⟩) (meth := k2m0) (c := k2c0) (by decide +kernel) rfl rfl rfl (by decide +kernel)
set_option maxRecDepth 65536 in
theorem w_c2 : (Jvm.Cond.code ({ cls := "java/lang/Object", name := "<init>", desc := "()V" } : Jvm.MethodName) object_method_1_code (1 : Nat) (Option.none : Option Jvm.ClassFile.FieldType)).before args0 about1 = true := code_word (m := ⟨0, 0⟩) (meth := k0m0) (c := k0c0) (by decide +kernel) rfl rfl rfl (by decide +kernel)
set_option maxRecDepth 65536 in
theorem w_c3 : (Jvm.Cond.code ({ cls := "com/example/chains_to_rank/chainstorank/ranker/Scores", name := "add", desc := "(ID)V" } : Jvm.MethodName) prog_88_method_2_code (4 : Nat) (Option.none : Option Jvm.ClassFile.FieldType)).before args0 about1 = true := code_word (m := ⟨2, 1⟩) (meth := k2m1) (c := k2c1) (by decide +kernel) rfl rfl rfl (by decide +kernel)
set_option maxRecDepth 65536 in
theorem w_c4 : (Jvm.Cond.code ({ cls := "java/lang/Math", name := "abs", desc := "(D)D" } : Jvm.MethodName) jdk_29_method_64_code (2 : Nat) (Option.some Jvm.ClassFile.FieldType.double)).before args0 about1 = true := code_word (m := ⟨3, 1⟩) (meth := k3m1) (c := k3c1) (by decide +kernel) rfl rfl rfl (by decide +kernel)
set_option maxRecDepth 65536 in
theorem w_c5 : (Jvm.Cond.code ({ cls := "com/example/chains_to_rank/chainstorank/ranker/Scores", name := "clear", desc := "()V" } : Jvm.MethodName) prog_88_method_11_code (3 : Nat) (Option.none : Option Jvm.ClassFile.FieldType)).before args0 about1 = true := code_word (m := ⟨2, 8⟩) (meth := k2m8) (c := k2c8) (by decide +kernel) rfl rfl rfl (by decide +kernel)
set_option maxRecDepth 65536 in
theorem w_c6 : (Jvm.Cond.code ({ cls := "com/example/chains_to_rank/chainstorank/ranker/Scores", name := "scoredCount", desc := "()I" } : Jvm.MethodName) prog_88_method_5_code (1 : Nat) (Option.some Jvm.ClassFile.FieldType.int)).before args0 about1 = true := code_word (m := ⟨2, 3⟩) (meth := k2m3) (c := k2c3) (by decide +kernel) rfl rfl rfl (by decide +kernel)
set_option maxRecDepth 65536 in
theorem w_c7 : (Jvm.Cond.code ({ cls := "com/example/chains_to_rank/chainstorank/ranker/Scores", name := "scored", desc := "(I)I" } : Jvm.MethodName) prog_88_method_6_code (2 : Nat) (Option.some Jvm.ClassFile.FieldType.int)).before args0 about1 = true := code_word (m := ⟨2, 4⟩) (meth := k2m4) (c := k2c4) (by decide +kernel) rfl rfl rfl (by decide +kernel)
set_option maxRecDepth 65536 in
theorem w_c8 : (Jvm.Cond.code ({ cls := "com/example/chains_to_rank/chainstorank/ranker/Scores", name := "value", desc := "(I)D" } : Jvm.MethodName) prog_88_method_3_code (2 : Nat) (Option.some Jvm.ClassFile.FieldType.double)).before args0 about1 = true := code_word (m := ⟨2, 2⟩) (meth := k2m2) (c := k2c2) (by decide +kernel) rfl rfl rfl (by decide +kernel)
set_option maxRecDepth 65536 in
theorem w_c9 : (Jvm.Cond.code ({ cls := "com/example/chains_to_rank/chainstorank/ranker/Scores", name := "isSameAsUnscored", desc := "(I)Z" } : Jvm.MethodName) prog_88_method_9_code (2 : Nat) (Option.some Jvm.ClassFile.FieldType.boolean)).before args0 about1 = true := code_word (m := ⟨2, 6⟩) (meth := k2m6) (c := k2c6) (by decide +kernel) rfl rfl rfl (by decide +kernel)
set_option maxRecDepth 65536 in
theorem w_c10 : (Jvm.Cond.code ({ cls := "com/example/chains_to_rank/chainstorank/ranker/Scores", name := "isSame", desc := "(DDDD)Z" } : Jvm.MethodName) prog_88_method_10_code (8 : Nat) (Option.some Jvm.ClassFile.FieldType.boolean)).before args0 about1 = true := code_word (m := ⟨2, 7⟩) (meth := k2m7) (c := k2c7) (by decide +kernel) rfl rfl rfl (by decide +kernel)
set_option maxRecDepth 65536 in
theorem w_c11 : (Jvm.Cond.code ({ cls := "java/lang/Math", name := "max", desc := "(DD)D" } : Jvm.MethodName) jdk_29_method_68_code (4 : Nat) (Option.some Jvm.ClassFile.FieldType.double)).before args0 about1 = true := code_word (m := ⟨3, 2⟩) (meth := k3m2) (c := k3c2) (by decide +kernel) rfl rfl rfl (by decide +kernel)
set_option maxRecDepth 65536 in
theorem w_c12 : (Jvm.Cond.code ({ cls := "com/example/chains_to_rank/chainstorank/ranker/Scores", name := "isScored", desc := "(I)Z" } : Jvm.MethodName) prog_88_method_7_code (2 : Nat) (Option.some Jvm.ClassFile.FieldType.boolean)).before args0 about1 = true := code_word (m := ⟨2, 5⟩) (meth := k2m5) (c := k2c5) (by decide +kernel) rfl rfl rfl (by decide +kernel)
def codes1 : List Jvm.Cond := [Jvm.Cond.code x code maxLocals ret, Jvm.Cond.code ({ cls := "com/example/chains_to_rank/chainstorank/ranker/Scores", name := "<init>", desc := "(I)V" } : Jvm.MethodName) prog_88_method_1_code (2 : Nat) (Option.none : Option Jvm.ClassFile.FieldType), Jvm.Cond.code ({ cls := "java/lang/Object", name := "<init>", desc := "()V" } : Jvm.MethodName) object_method_1_code (1 : Nat) (Option.none : Option Jvm.ClassFile.FieldType), Jvm.Cond.code ({ cls := "com/example/chains_to_rank/chainstorank/ranker/Scores", name := "add", desc := "(ID)V" } : Jvm.MethodName) prog_88_method_2_code (4 : Nat) (Option.none : Option Jvm.ClassFile.FieldType), Jvm.Cond.code ({ cls := "java/lang/Math", name := "abs", desc := "(D)D" } : Jvm.MethodName) jdk_29_method_64_code (2 : Nat) (Option.some Jvm.ClassFile.FieldType.double), Jvm.Cond.code ({ cls := "com/example/chains_to_rank/chainstorank/ranker/Scores", name := "clear", desc := "()V" } : Jvm.MethodName) prog_88_method_11_code (3 : Nat) (Option.none : Option Jvm.ClassFile.FieldType), Jvm.Cond.code ({ cls := "com/example/chains_to_rank/chainstorank/ranker/Scores", name := "scoredCount", desc := "()I" } : Jvm.MethodName) prog_88_method_5_code (1 : Nat) (Option.some Jvm.ClassFile.FieldType.int), Jvm.Cond.code ({ cls := "com/example/chains_to_rank/chainstorank/ranker/Scores", name := "scored", desc := "(I)I" } : Jvm.MethodName) prog_88_method_6_code (2 : Nat) (Option.some Jvm.ClassFile.FieldType.int), Jvm.Cond.code ({ cls := "com/example/chains_to_rank/chainstorank/ranker/Scores", name := "value", desc := "(I)D" } : Jvm.MethodName) prog_88_method_3_code (2 : Nat) (Option.some Jvm.ClassFile.FieldType.double), Jvm.Cond.code ({ cls := "com/example/chains_to_rank/chainstorank/ranker/Scores", name := "isSameAsUnscored", desc := "(I)Z" } : Jvm.MethodName) prog_88_method_9_code (2 : Nat) (Option.some Jvm.ClassFile.FieldType.boolean), Jvm.Cond.code ({ cls := "com/example/chains_to_rank/chainstorank/ranker/Scores", name := "isSame", desc := "(DDDD)Z" } : Jvm.MethodName) prog_88_method_10_code (8 : Nat) (Option.some Jvm.ClassFile.FieldType.boolean), Jvm.Cond.code ({ cls := "java/lang/Math", name := "max", desc := "(DD)D" } : Jvm.MethodName) jdk_29_method_68_code (4 : Nat) (Option.some Jvm.ClassFile.FieldType.double), Jvm.Cond.code ({ cls := "com/example/chains_to_rank/chainstorank/ranker/Scores", name := "isScored", desc := "(I)Z" } : Jvm.MethodName) prog_88_method_7_code (2 : Nat) (Option.some Jvm.ClassFile.FieldType.boolean)]
set_option maxRecDepth 65536 in
theorem codes_eq : words1.filter isCode = codes1 := rfl
theorem w_codes : ∀ c ∈ words1.filter isCode, c.before args0 about1 = true := by
  rw [codes_eq]
  intro c hc
  simp only [codes1, List.mem_cons, List.not_mem_nil, or_false] at hc
  rcases hc with rfl | rfl | rfl | rfl | rfl | rfl | rfl | rfl | rfl | rfl | rfl | rfl | rfl
  · exact w_c0
  · exact w_c1
  · exact w_c2
  · exact w_c3
  · exact w_c4
  · exact w_c5
  · exact w_c6
  · exact w_c7
  · exact w_c8
  · exact w_c9
  · exact w_c10
  · exact w_c11
  · exact w_c12
set_option maxRecDepth 65536 in
theorem w_t1 : (words1.take 24).all (fun c => isCode c || c.before args0 about1) = true := by decide +kernel
set_option maxRecDepth 65536 in
theorem w_t2 : ((words1.drop 24).take 24).all (fun c => isCode c || c.before args0 about1) = true := by decide +kernel
set_option maxRecDepth 65536 in
theorem w_t3 : ((words1.drop 24).drop 24).all (fun c => isCode c || c.before args0 about1) = true := by decide +kernel
theorem w_tables : (allAtoms (Jvm.Cond.code x code maxLocals ret :: tables_1)).before args0 about1 = true := by
  rw [allAtoms_all]
  show words1.all (fun c => c.before args0 about1) = true
  refine all_split ?_ w_codes
  rw [← List.take_append_drop 24 words1, List.all_append, w_t1, ← List.take_append_drop 24 (words1.drop 24), List.all_append, w_t2, w_t3]
  rfl
set_option maxRecDepth 65536 in
theorem w_case : (Jvm.Cond.and given_1 narrow_1).before args0 about1 = true := by decide +kernel
theorem w_applies : (headSpec (Jvm.Cond.code x code maxLocals ret :: tables_1) room_1).applies x e0.platform about1 = true :=
  (Spec.applies_iff w_frames).mpr ⟨w_running, w_runnable, w_alone, w_named, w_hears, w_ripe, w_room, w_tables⟩
theorem atStart : AtStart classFile x code maxLocals ret World_1 tables_1 room_1 Calls_1 rest_1 Pre_1 launch0 p0 e0 about1 theMethod args0 below0 :=
  ⟨lists_1, trivial, launch0.admits_env _ _ _, launch0.least_env, fairChoices_fair.cas, fairChoices_fair.clock, w_frames, w_args, w_heap, w_applies, trivial, trivial, w_case⟩
end start1
theorem witness_1 : WitnessClaimed_1 := ⟨start1.p0, start1.e0, start1.about1, start1.theMethod, start1.args0, start1.below0, start1.atStart⟩
end Jvm.Pilot.@@N@@
