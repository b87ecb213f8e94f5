import JvmDerived
import JvmDerived.Pilot.@@N@@Statement
import JvmDerived.Pilot.@@N@@Code
set_option linter.unusedVariables false
set_option linter.unusedSimpArgs false
namespace Jvm.Pilot.@@N@@
open Jvm Jvm.ClassFile Sem Op Lib Jvm.Free Jvm.Stand Jvm.LawKit Jvm.RoadKit Bundle Jvm.Pilot.@@N@@.Jvm.D
def own_Fin (p : Program) (e : Env) (below : List Frame) (P : State → Outcome → Prop) (a : State) : Prop := ∃ t o, Steps p.tables e below a t ∧ t.status = .running ∧ Ended t below o ∧ P t o
theorem own_fin {p : Program} {e : Env} {below : List Frame} {P : State → Outcome → Prop} {a b : State} (k : ∀ t, Steps p.tables e below b t → Steps p.tables e below a t) (h : own_Fin p e below P b) : own_Fin p e below P a := by
  obtain ⟨t, o, s, r⟩ := h
  exact ⟨t, o, k t s, r⟩
theorem own_rw {T : State} {h : Heap} {a : Addr} {c : Cell} (e : T.heap = h) (q : h[a]? = some c) : T.heap[a]? = some c := by rw [e]; exact q
theorem own_StaKeep {Z : State} {h : Heap} {C n d : String} {v : Value} {n0 : Nat} (O : Old Z n0 h) (F : Sta Z Z.heap C n d v) : Sta Z h C n d v := F.ext O.2

def own_T (Z : State) (h : Heap) (a : Addr) (ty : FieldType) (z : Int32) (f : Int32 → Int32) : Prop := ∃ c : Cell, Arr Z h a c ty ∧ c.slots.size = z.toNatClampNeg ∧ ¬ z < 0 ∧ ∀ j : Int32, ¬ (j < 0 ∨ c.slots.size ≤ j.toNatClampNeg) → c.slots[j.toNatClampNeg]? = some (.int (f j))
def own_up (f : Int32 → Int32) (j x : Int32) : Int32 → Int32 := fun i => if j = i then x else f i
section OwnT
variable {Z : State} {h h' : Heap} {a b : Addr} {ty : FieldType} {z : Int32} {f g : Int32 → Int32}
theorem own_T.lt (F : own_T Z h a ty z f) : a < h.size := by obtain ⟨c, A, -⟩ := F; exact A.lt
theorem own_T.ext (F : own_T Z h a ty z f) (E : Ext h h') : own_T Z h' a ty z f := by obtain ⟨c, A, r⟩ := F; exact ⟨c, A.ext E, r⟩
theorem own_T.other {sl : Nat} {v : Value} (F : own_T Z h a ty z f) (W : Wr h h' b sl v) (q : a ≠ b) : own_T Z h' a ty z f := by obtain ⟨c, A, r⟩ := F; exact ⟨c, A.other W q, r⟩
theorem own_T.keep {ws : List Addr} (F : own_T Z h a ty z f) (K : Keep h h' ws) (q : a ∉ ws) : own_T Z h' a ty z f := by obtain ⟨c, A, r⟩ := F; exact ⟨c, ⟨K.2.1 a c A.1 q, A.2⟩, r⟩
theorem own_T.congr (F : own_T Z h a ty z f) (q : ∀ j : Int32, ¬ j < 0 ∧ j < z → f j = g j) : own_T Z h a ty z g := by
  obtain ⟨c, A, S, N, H⟩ := F
  refine ⟨c, A, S, N, fun j hj => ?_⟩
  have h1 : ¬ j < 0 := fun y => hj (Or.inl y)
  have h2 : j < z := by
    have h3 : ¬ c.slots.size ≤ j.toNatClampNeg := fun y => hj (Or.inr y)
    rw [S] at h3
    have e1 := nat_of h1
    have e2 := nat_of N
    rw [Int32.lt_iff_toInt_lt]; omega
  rw [H j hj, q j ⟨h1, h2⟩]
theorem own_T.set {j x : Int32} (F : own_T Z h a ty z f) (W : Wr h h' a j.toNatClampNeg (.int x)) (q : ¬ j < 0 ∧ j < z) : own_T Z h' a ty z (own_up f j x) := by
  obtain ⟨c, A, S, N, H⟩ := F
  refine ⟨_, A.same W, by rw [sz_set]; exact S, N, fun i hi => ?_⟩
  rw [sz_set] at hi
  unfold own_up
  by_cases e : j = i
  · rw [if_pos e]; exact get_hit (inb_of S q) e.symm
  · rw [if_neg e, get_miss q.1 (fun y => hi (Or.inl y)) (Ne.symm e)]; exact H i hi
theorem own_T.new {k : ClassId} (A : Arr Z h a (newA k ty z) ty) (q : ¬ z < 0) (d : defaultValue ty = .int 0) : own_T Z h a ty z (fun _ => 0) :=
  ⟨_, A, sz_new _ _ _, q, fun j hj => by rw [← d]; exact get_new (by rw [sz_new] at hj; exact hj)⟩
end OwnT
theorem own_T.nn {Z : State} {h : Heap} {a : Addr} {ty : FieldType} {z : Int32} {f : Int32 → Int32} (F : own_T Z h a ty z f) : ¬ z < 0 := by obtain ⟨_, _, _, N, _⟩ := F; exact N
theorem own_V.nn {Z : State} {h : Heap} {a : Addr} {k : ClassId} {ty : FieldType} {z : Int32} {vs : List Value} {d : Value} (F : Arv Z h a k ty z vs d) : ¬ z < 0 := by obtain ⟨_, _, _, _, N, _⟩ := F; exact N
theorem own_bk {z : Int32} (h : ¬ z < 0) : Int32.ofNat z.toNatClampNeg = z := (back32 h).1
theorem own_nlt {z : Int32} (h : ¬ z < 0) : ¬ (Int32.ofNat z.toNatClampNeg < z) := by rw [own_bk h]; exact Int32.lt_irrefl (a := z)
theorem own_i32 {z : Int32} {i : Nat} (h : ¬ z < 0) (q : i < z.toNatClampNeg) : (Int32.ofNat i).toInt = i := by
  have := (back32 h).2
  exact Int32.toInt_ofNat_of_lt (by omega)
theorem own_ltz {z : Int32} {i : Nat} (h : ¬ z < 0) (q : i < z.toNatClampNeg) : Int32.ofNat i < z := by
  rw [Int32.lt_iff_toInt_lt, own_i32 h q, nat_of h]; omega
theorem own_nn {z : Int32} {i : Nat} (h : ¬ z < 0) (q : i < z.toNatClampNeg) : ¬ Int32.ofNat i < 0 := by
  rw [Int32.lt_iff_toInt_lt, own_i32 h q, show (0 : Int32).toInt = 0 from rfl]; omega
theorem own_cl {z : Int32} {i : Nat} (h : ¬ z < 0) (q : i < z.toNatClampNeg) : (Int32.ofNat i).toNatClampNeg = i := by
  rw [Int32.toNatClampNeg, own_i32 h q]; rfl
theorem own_one (i : Nat) : Int32.ofNat i + (1 : Int32) = Int32.ofNat (i + 1) := (Int32.ofNat_add i 1).symm
theorem own_jn {j z : Int32} (h1 : ¬ j < 0) (h0 : ¬ z < 0) (h2 : j < z) : j.toNatClampNeg < z.toNatClampNeg := by
  rw [Int32.lt_iff_toInt_lt, nat_of h1, nat_of h0] at h2; omega
theorem own_fs {g : Int32 → Int32} {p z : Int32} {i : Nat} (hz : ¬ z < 0) (q : i < z.toNatClampNeg) (h : ∀ j : Int32, ¬ j < 0 → j.toNatClampNeg < i → g j = p) : ∀ j : Int32, ¬ j < 0 → j.toNatClampNeg < i + 1 → own_up g (Int32.ofNat i) p j = p := by
  intro j h1 h2
  unfold own_up
  by_cases e : Int32.ofNat i = j
  · rw [if_pos e]
  · rw [if_neg e]
    refine h j h1 (Nat.lt_of_le_of_ne (by omega) fun y => e ?_)
    apply Int32.toInt_inj.mp
    rw [own_i32 hz q, nat_of h1, y]
def own_ft (xs : List Int32) : Nat → Int32 → Int32
  | 0 => fun _ => -1
  | k + 1 => own_up (own_ft xs k) (xs.getD k 0 &&& (255 : Int32)) (Int32.ofNat k)
theorem own_gm (xs : List Int32) (k : Nat) : (xs.map Value.int).getD k (.int 0) = .int (xs.getD k 0) := by
  induction xs generalizing k with
  | nil => rfl
  | cons x t ih => cases k with
    | zero => rfl
    | succ k => exact ih k
theorem own_m255 (x : Int32) : ¬ (x &&& (255 : Int32)) < 0 ∧ (x &&& (255 : Int32)) < (256 : Int32) := by
  have m := c_mask x (255 : Int32) 8 (by decide) (by decide)
  rw [Int32.lt_iff_toInt_lt, Int32.lt_iff_toInt_lt, m, show (0 : Int32).toInt = 0 from rfl, show (256 : Int32).toInt = 256 from rfl]
  omega
theorem own_last (xs : List Int32) (k : Nat) : own_ft xs (k + 1) (xs.getD k 0 &&& (255 : Int32)) = Int32.ofNat k := if_pos rfl
theorem own_nb (x : Int32) : nar .byte (nar .byte x.toInt8.toInt32) = nar .byte x.toInt8.toInt32 := by
  show (x.toInt8.toInt32.toInt8.toInt32).toInt8.toInt32 = x.toInt8.toInt32.toInt8.toInt32
  simp
def own_st (n v x r i : Int32) : Int32 := if i < n then (if (x &&& (255 : Int32)) = v then i else r) else r
theorem own_stl {n v x r i : Int32} (h : i < n) : own_st n v x r i = if (x &&& (255 : Int32)) = v then i else r := if_pos h
theorem own_stg {n v x r i : Int32} (h : ¬ i < n) : own_st n v x r i = r := if_neg h
def own_ref (n v x0 x1 x2 x3 x4 x5 x6 x7 : Int32) : Int32 := own_st n v x7 (own_st n v x6 (own_st n v x5 (own_st n v x4 (own_st n v x3 (own_st n v x2 (own_st n v x1 (own_st n v x0 (-1) 0) 1) 2) 3) 4) 5) 6) 7
theorem own_n9 (x : Int32) : ((x &&& (15 : Int32)) % (9 : Int32)) = 0 ∨ ((x &&& (15 : Int32)) % (9 : Int32)) = 1 ∨ ((x &&& (15 : Int32)) % (9 : Int32)) = 2 ∨ ((x &&& (15 : Int32)) % (9 : Int32)) = 3 ∨ ((x &&& (15 : Int32)) % (9 : Int32)) = 4 ∨ ((x &&& (15 : Int32)) % (9 : Int32)) = 5 ∨ ((x &&& (15 : Int32)) % (9 : Int32)) = 6 ∨ ((x &&& (15 : Int32)) % (9 : Int32)) = 7 ∨ ((x &&& (15 : Int32)) % (9 : Int32)) = 8 := by
  have m := c_mask x (15 : Int32) 4 (by decide) (by decide)
  have r := (c_irem (x &&& (15 : Int32)) 9 9 rfl).1 (by omega)
  simp only [← Int32.toInt_inj]
  rw [r, show (0 : Int32).toInt = 0 from rfl, show (1 : Int32).toInt = 1 from rfl, show (2 : Int32).toInt = 2 from rfl, show (3 : Int32).toInt = 3 from rfl, show (4 : Int32).toInt = 4 from rfl, show (5 : Int32).toInt = 5 from rfl, show (6 : Int32).toInt = 6 from rfl, show (7 : Int32).toInt = 7 from rfl, show (8 : Int32).toInt = 8 from rfl]
  omega
theorem own_e0 (v x0 x1 x2 x3 x4 x5 x6 x7 : Int32) : own_ft [] (0 : Int32).toNatClampNeg v = own_ref (0 : Int32) v x0 x1 x2 x3 x4 x5 x6 x7 := by
  simp only [own_ref, own_stg (by decide : ¬ (0 : Int32) < (0 : Int32)), own_stg (by decide : ¬ (1 : Int32) < (0 : Int32)), own_stg (by decide : ¬ (2 : Int32) < (0 : Int32)), own_stg (by decide : ¬ (3 : Int32) < (0 : Int32)), own_stg (by decide : ¬ (4 : Int32) < (0 : Int32)), own_stg (by decide : ¬ (5 : Int32) < (0 : Int32)), own_stg (by decide : ¬ (6 : Int32) < (0 : Int32)), own_stg (by decide : ¬ (7 : Int32) < (0 : Int32))]
  rfl
theorem own_e1 (v x0 x1 x2 x3 x4 x5 x6 x7 : Int32) : own_ft [x0] (1 : Int32).toNatClampNeg v = own_ref (1 : Int32) v x0 x1 x2 x3 x4 x5 x6 x7 := by
  simp only [own_ref, own_stl (by decide : (0 : Int32) < (1 : Int32)), own_stg (by decide : ¬ (1 : Int32) < (1 : Int32)), own_stg (by decide : ¬ (2 : Int32) < (1 : Int32)), own_stg (by decide : ¬ (3 : Int32) < (1 : Int32)), own_stg (by decide : ¬ (4 : Int32) < (1 : Int32)), own_stg (by decide : ¬ (5 : Int32) < (1 : Int32)), own_stg (by decide : ¬ (6 : Int32) < (1 : Int32)), own_stg (by decide : ¬ (7 : Int32) < (1 : Int32))]
  rfl
theorem own_e2 (v x0 x1 x2 x3 x4 x5 x6 x7 : Int32) : own_ft [x0, x1] (2 : Int32).toNatClampNeg v = own_ref (2 : Int32) v x0 x1 x2 x3 x4 x5 x6 x7 := by
  simp only [own_ref, own_stl (by decide : (0 : Int32) < (2 : Int32)), own_stl (by decide : (1 : Int32) < (2 : Int32)), own_stg (by decide : ¬ (2 : Int32) < (2 : Int32)), own_stg (by decide : ¬ (3 : Int32) < (2 : Int32)), own_stg (by decide : ¬ (4 : Int32) < (2 : Int32)), own_stg (by decide : ¬ (5 : Int32) < (2 : Int32)), own_stg (by decide : ¬ (6 : Int32) < (2 : Int32)), own_stg (by decide : ¬ (7 : Int32) < (2 : Int32))]
  rfl
theorem own_e3 (v x0 x1 x2 x3 x4 x5 x6 x7 : Int32) : own_ft [x0, x1, x2] (3 : Int32).toNatClampNeg v = own_ref (3 : Int32) v x0 x1 x2 x3 x4 x5 x6 x7 := by
  simp only [own_ref, own_stl (by decide : (0 : Int32) < (3 : Int32)), own_stl (by decide : (1 : Int32) < (3 : Int32)), own_stl (by decide : (2 : Int32) < (3 : Int32)), own_stg (by decide : ¬ (3 : Int32) < (3 : Int32)), own_stg (by decide : ¬ (4 : Int32) < (3 : Int32)), own_stg (by decide : ¬ (5 : Int32) < (3 : Int32)), own_stg (by decide : ¬ (6 : Int32) < (3 : Int32)), own_stg (by decide : ¬ (7 : Int32) < (3 : Int32))]
  rfl
theorem own_e4 (v x0 x1 x2 x3 x4 x5 x6 x7 : Int32) : own_ft [x0, x1, x2, x3] (4 : Int32).toNatClampNeg v = own_ref (4 : Int32) v x0 x1 x2 x3 x4 x5 x6 x7 := by
  simp only [own_ref, own_stl (by decide : (0 : Int32) < (4 : Int32)), own_stl (by decide : (1 : Int32) < (4 : Int32)), own_stl (by decide : (2 : Int32) < (4 : Int32)), own_stl (by decide : (3 : Int32) < (4 : Int32)), own_stg (by decide : ¬ (4 : Int32) < (4 : Int32)), own_stg (by decide : ¬ (5 : Int32) < (4 : Int32)), own_stg (by decide : ¬ (6 : Int32) < (4 : Int32)), own_stg (by decide : ¬ (7 : Int32) < (4 : Int32))]
  rfl
theorem own_e5 (v x0 x1 x2 x3 x4 x5 x6 x7 : Int32) : own_ft [x0, x1, x2, x3, x4] (5 : Int32).toNatClampNeg v = own_ref (5 : Int32) v x0 x1 x2 x3 x4 x5 x6 x7 := by
  simp only [own_ref, own_stl (by decide : (0 : Int32) < (5 : Int32)), own_stl (by decide : (1 : Int32) < (5 : Int32)), own_stl (by decide : (2 : Int32) < (5 : Int32)), own_stl (by decide : (3 : Int32) < (5 : Int32)), own_stl (by decide : (4 : Int32) < (5 : Int32)), own_stg (by decide : ¬ (5 : Int32) < (5 : Int32)), own_stg (by decide : ¬ (6 : Int32) < (5 : Int32)), own_stg (by decide : ¬ (7 : Int32) < (5 : Int32))]
  rfl
theorem own_e6 (v x0 x1 x2 x3 x4 x5 x6 x7 : Int32) : own_ft [x0, x1, x2, x3, x4, x5] (6 : Int32).toNatClampNeg v = own_ref (6 : Int32) v x0 x1 x2 x3 x4 x5 x6 x7 := by
  simp only [own_ref, own_stl (by decide : (0 : Int32) < (6 : Int32)), own_stl (by decide : (1 : Int32) < (6 : Int32)), own_stl (by decide : (2 : Int32) < (6 : Int32)), own_stl (by decide : (3 : Int32) < (6 : Int32)), own_stl (by decide : (4 : Int32) < (6 : Int32)), own_stl (by decide : (5 : Int32) < (6 : Int32)), own_stg (by decide : ¬ (6 : Int32) < (6 : Int32)), own_stg (by decide : ¬ (7 : Int32) < (6 : Int32))]
  rfl
theorem own_e7 (v x0 x1 x2 x3 x4 x5 x6 x7 : Int32) : own_ft [x0, x1, x2, x3, x4, x5, x6] (7 : Int32).toNatClampNeg v = own_ref (7 : Int32) v x0 x1 x2 x3 x4 x5 x6 x7 := by
  simp only [own_ref, own_stl (by decide : (0 : Int32) < (7 : Int32)), own_stl (by decide : (1 : Int32) < (7 : Int32)), own_stl (by decide : (2 : Int32) < (7 : Int32)), own_stl (by decide : (3 : Int32) < (7 : Int32)), own_stl (by decide : (4 : Int32) < (7 : Int32)), own_stl (by decide : (5 : Int32) < (7 : Int32)), own_stl (by decide : (6 : Int32) < (7 : Int32)), own_stg (by decide : ¬ (7 : Int32) < (7 : Int32))]
  rfl
theorem own_e8 (v x0 x1 x2 x3 x4 x5 x6 x7 : Int32) : own_ft [x0, x1, x2, x3, x4, x5, x6, x7] (8 : Int32).toNatClampNeg v = own_ref (8 : Int32) v x0 x1 x2 x3 x4 x5 x6 x7 := by
  simp only [own_ref, own_stl (by decide : (0 : Int32) < (8 : Int32)), own_stl (by decide : (1 : Int32) < (8 : Int32)), own_stl (by decide : (2 : Int32) < (8 : Int32)), own_stl (by decide : (3 : Int32) < (8 : Int32)), own_stl (by decide : (4 : Int32) < (8 : Int32)), own_stl (by decide : (5 : Int32) < (8 : Int32)), own_stl (by decide : (6 : Int32) < (8 : Int32)), own_stl (by decide : (7 : Int32) < (8 : Int32))]
  rfl
theorem own_d2_5 : decode jdk_65_method_103_code 5 = .ok (.iload_n 2, 1) := by decide +kernel
theorem own_d2_6 : decode jdk_65_method_103_code 6 = .ok (.iload_n 3, 1) := by decide +kernel
theorem own_d2_7 : decode jdk_65_method_103_code 7 = .ok (.if_icmp .ge 13, 3) := by decide +kernel
theorem own_d2_10 : decode jdk_65_method_103_code 10 = .ok (.aload_n 0, 1) := by decide +kernel
theorem own_d2_11 : decode jdk_65_method_103_code 11 = .ok (.iload_n 2, 1) := by decide +kernel
theorem own_d2_12 : decode jdk_65_method_103_code 12 = .ok (.iload_n 1, 1) := by decide +kernel
theorem own_d2_13 : decode jdk_65_method_103_code 13 = .ok (.iastore, 1) := by decide +kernel
theorem own_d2_14 : decode jdk_65_method_103_code 14 = .ok (.iinc 2 1, 3) := by decide +kernel
theorem own_d2_17 : decode jdk_65_method_103_code 17 = .ok (.goto (-12), 3) := by decide +kernel
set_option maxRecDepth 65536 in
set_option maxHeartbeats 40000000 in
theorem own_lpf {pP : Program} {lL : Launch} {eE : Env} {R : Room} {sS : State} {mM : MethodId} {args : Array Value} {below : List Frame} {meth : Method} {cC : Code} {cells slots : Nat} {PP : State → Outcome → Prop} (Z : State) (a0 : Array Value) (hw : ∀ d ∈ tables_1, d.before a0 Z = true) (a : Addr) (p1 : Int32) (z : Int32) (f : Int32 → Int32) (h0 : Heap) (n0 : Nat) (Z0 : n0 ≤ h0.size) (ga : n0 ≤ a) (hx : pP.tables.exec = Jvm.exec) (hZ : Z.Warmed39 sS.vm) (hby : cC.code = jdk_65_method_103_code) (hml : cC.maxLocals = 4) (hown : sS.vm.findClass "java/util/Arrays" = some mM.cls)
    (kont0 : ∀ (Th : State) (hh : Heap) (Lh : List Loc), Stand pP lL eE R sS mM args below meth cC Th Lh cells slots → Th.heap = hh → Fr n0 Lh → Keep h0 hh [a] → (own_T Z hh a .int z (fun _ => p1)) → own_Fin pP eE below PP (Th.setTop (mkF mM 20 #[.val (.ref a), .val (.int p1), .val (.int (Int32.ofNat z.toNatClampNeg)), .val (.int z)] []))) :
    ∀ (k i : Nat) (g : Int32 → Int32) (Th : State) (hh : Heap) (Lh : List Loc), i + k = z.toNatClampNeg → Stand pP lL eE R sS mM args below meth cC Th Lh cells slots → Th.heap = hh → Fr n0 Lh → Keep h0 hh [a] → (own_T Z hh a .int z g) → (∀ j : Int32, ¬ j < 0 → j.toNatClampNeg < i → g j = p1) → own_Fin pP eE below PP (Th.setTop (mkF mM 5 #[.val (.ref a), .val (.int p1), .val (.int (Int32.ofNat i)), .val (.int z)] [])) := by
  intro k
  induction k with
  | zero =>
      intro i g Th hh Lh hik Xh eh Nh Kh Tg Pg
      show own_Fin pP eE below _ (Th.setTop (mkF mM 5 #[.val (.ref a), .val (.int p1), .val (.int (Int32.ofNat i)), .val (.int z)] []))
      have hz := Tg.nn
      obtain rfl : i = z.toNatClampNeg := by omega
      show own_Fin pP eE below _ (Th.setTop (mkF mM 5 #[.val (.ref a), .val (.int p1), .val (.int (Int32.ofNat z.toNatClampNeg)), .val (.int z)] []))
      refine own_fin (b := Th.setTop (mkF mM 20 #[.val (.ref a), .val (.int p1), .val (.int (Int32.ofNat z.toNatClampNeg)), .val (.int z)] [])) (fun tT kK => ?_) ?_
      · show Steps pP.tables eE below (Th.setTop (mkF mM 5 #[.val (.ref a), .val (.int p1), .val (.int (Int32.ofNat z.toNatClampNeg)), .val (.int z)] [])) tT
        refine XS.iloadN Xh.here hx rfl (Jvm.hb hby own_d2_5) rfl ?_
        show Steps pP.tables eE below (Th.setTop (mkF mM 6 #[.val (.ref a), .val (.int p1), .val (.int (Int32.ofNat z.toNatClampNeg)), .val (.int z)] [(.int (Int32.ofNat z.toNatClampNeg))])) tT
        refine XS.iloadN Xh.here hx rfl (Jvm.hb hby own_d2_6) rfl ?_
        show Steps pP.tables eE below (Th.setTop (mkF mM 7 #[.val (.ref a), .val (.int p1), .val (.int (Int32.ofNat z.toNatClampNeg)), .val (.int z)] [(.int z), (.int (Int32.ofNat z.toNatClampNeg))])) tT
        refine XS.icmpYes Xh.here hx rfl (pc0 := 7) (pc' := 20) rfl (Jvm.hb hby own_d2_7) rfl (flt (own_nlt hz : ¬ ((Int32.ofNat z.toNatClampNeg) < z))).2.1 (by decide) (by decide) ?_
        show Steps pP.tables eE below (Th.setTop (mkF mM 20 #[.val (.ref a), .val (.int p1), .val (.int (Int32.ofNat z.toNatClampNeg)), .val (.int z)] [])) tT
        exact kK
      exact kont0  _ _ _ Xh eh Nh Kh (Tg.congr fun j hj => Pg j hj.1 (own_jn hj.1 hz hj.2))
  | succ k ih =>
      intro i g Th hh Lh hik Xh eh Nh Kh Tg Pg
      show own_Fin pP eE below _ (Th.setTop (mkF mM 5 #[.val (.ref a), .val (.int p1), .val (.int (Int32.ofNat i)), .val (.int z)] []))
      have hz := Tg.nn
      have hi : i < z.toNatClampNeg := by omega
      refine own_fin (b := Th.setTop (mkF mM 13 #[.val (.ref a), .val (.int p1), .val (.int (Int32.ofNat i)), .val (.int z)] [(.int p1), (.int (Int32.ofNat i)), (.ref a)])) (fun tT kK => ?_) ?_
      · show Steps pP.tables eE below (Th.setTop (mkF mM 5 #[.val (.ref a), .val (.int p1), .val (.int (Int32.ofNat i)), .val (.int z)] [])) tT
        refine XS.iloadN Xh.here hx rfl (Jvm.hb hby own_d2_5) rfl ?_
        show Steps pP.tables eE below (Th.setTop (mkF mM 6 #[.val (.ref a), .val (.int p1), .val (.int (Int32.ofNat i)), .val (.int z)] [(.int (Int32.ofNat i))])) tT
        refine XS.iloadN Xh.here hx rfl (Jvm.hb hby own_d2_6) rfl ?_
        show Steps pP.tables eE below (Th.setTop (mkF mM 7 #[.val (.ref a), .val (.int p1), .val (.int (Int32.ofNat i)), .val (.int z)] [(.int z), (.int (Int32.ofNat i))])) tT
        refine XS.icmpNo Xh.here hx rfl (Jvm.hb hby own_d2_7) rfl (tlt (own_ltz hz hi : (Int32.ofNat i) < z)).2.1 ?_
        show Steps pP.tables eE below (Th.setTop (mkF mM 10 #[.val (.ref a), .val (.int p1), .val (.int (Int32.ofNat i)), .val (.int z)] [])) tT
        refine XS.aloadN Xh.here hx rfl (Jvm.hb hby own_d2_10) rfl rfl ?_
        show Steps pP.tables eE below (Th.setTop (mkF mM 11 #[.val (.ref a), .val (.int p1), .val (.int (Int32.ofNat i)), .val (.int z)] [(.ref a)])) tT
        refine XS.iloadN Xh.here hx rfl (Jvm.hb hby own_d2_11) rfl ?_
        show Steps pP.tables eE below (Th.setTop (mkF mM 12 #[.val (.ref a), .val (.int p1), .val (.int (Int32.ofNat i)), .val (.int z)] [(.int (Int32.ofNat i)), (.ref a)])) tT
        refine XS.iloadN Xh.here hx rfl (Jvm.hb hby own_d2_12) rfl ?_
        show Steps pP.tables eE below (Th.setTop (mkF mM 13 #[.val (.ref a), .val (.int p1), .val (.int (Int32.ofNat i)), .val (.int z)] [(.int p1), (.int (Int32.ofNat i)), (.ref a)])) tT
        exact kK
      obtain ⟨cl1_, Ar1_, Sz1_, Nn1_, Hh1_⟩ := id Tg
      have hin1_ : ¬ ((Int32.ofNat i) < 0 ∨ cl1_.slots.size ≤ ((Int32.ofNat i)).toNatClampNeg) := inb_of Sz1_ ⟨own_nn hz hi, own_ltz hz hi⟩
      obtain ⟨T1_, h1_, X1_, e1_, W1_, st1_⟩ := stI Xh hx hZ eh Ar1_ (j := (Int32.ofNat i)) hin1_ (g := (mkF mM 13 #[.val (.ref a), .val (.int p1), .val (.int (Int32.ofNat i)), .val (.int z)] [(.int p1), (.int (Int32.ofNat i)), (.ref a)])) rfl rfl (Jvm.hb hby own_d2_13)
      have U1_ : own_T Z h1_ a .int z (own_up g (Int32.ofNat i) p1) := own_T.set ⟨cl1_, Ar1_, Sz1_, Nn1_, Hh1_⟩ W1_ ⟨own_nn hz hi, own_ltz hz hi⟩
      have K1_ := Kh.wr W1_ (Or.inl (List.mem_of_getElem? (i := 0) rfl))
      have N1_ := Fr.snoc X1_ Nh ga
      refine own_fin st1_ ?_
      show own_Fin pP eE below _ (T1_.setTop (mkF mM 14 #[.val (.ref a), .val (.int p1), .val (.int (Int32.ofNat i)), .val (.int z)] []))
      refine own_fin (b := T1_.setTop (mkF mM 5 #[.val (.ref a), .val (.int p1), .val (.int ((Int32.ofNat i) + (1 : Int32))), .val (.int z)] [])) (fun tT kK => ?_) ?_
      · show Steps pP.tables eE below (T1_.setTop (mkF mM 14 #[.val (.ref a), .val (.int p1), .val (.int (Int32.ofNat i)), .val (.int z)] [])) tT
        refine XS.iinc X1_.here hx rfl (Jvm.hb hby own_d2_14) rfl (l' := #[.val (.ref a), .val (.int p1), .val (.int ((Int32.ofNat i) + (1 : Int32))), .val (.int z)]) rfl ?_
        show Steps pP.tables eE below (T1_.setTop (mkF mM 17 #[.val (.ref a), .val (.int p1), .val (.int ((Int32.ofNat i) + (1 : Int32))), .val (.int z)] [])) tT
        refine XS.goto X1_.here hx rfl (pc0 := 17) (pc' := 5) rfl (Jvm.hb hby own_d2_17) (by decide) (by decide) ?_
        show Steps pP.tables eE below (T1_.setTop (mkF mM 5 #[.val (.ref a), .val (.int p1), .val (.int ((Int32.ofNat i) + (1 : Int32))), .val (.int z)] [])) tT
        exact kK
      rw [own_one i]
      exact ih (i + 1) _ _ _ _ (by omega) X1_ e1_ N1_ K1_ U1_ (own_fs hz hi Pg)
theorem own_d2_0 : decode jdk_65_method_103_code 0 = .ok (.iconst 0, 1) := by decide +kernel
theorem own_d2_1 : decode jdk_65_method_103_code 1 = .ok (.istore_n 2, 1) := by decide +kernel
theorem own_d2_2 : decode jdk_65_method_103_code 2 = .ok (.aload_n 0, 1) := by decide +kernel
theorem own_d2_3 : decode jdk_65_method_103_code 3 = .ok (.arraylength, 1) := by decide +kernel
theorem own_d2_4 : decode jdk_65_method_103_code 4 = .ok (.istore_n 3, 1) := by decide +kernel
theorem own_d2_20 : decode jdk_65_method_103_code 20 = .ok (.return_, 1) := by decide +kernel
theorem own_pn_java_util_Arrays : plainName "java/util/Arrays" = true := by first | (simp [plainName, overriddenIn]; done) | decide +kernel
theorem own_ef_rm_fill (mM : MethodId) (x0 : Addr) (x1 : Int32) : entryFrame mM #[(.ref x0), (.int x1)] 4 = mkF mM 0 #[.val (.ref x0), .val (.int x1), .unset, .unset] [] := by first | (simp [entryFrame, mkF, argsToLocals, Value.category]; done) | rfl
def Q_rm_fill (Z : State) (a : Addr) (p1 : Int32) (z : Int32) (f : Int32 → Int32) (h0 : Heap) (n0 : Nat) (vV : Option Value) (hH : Heap) (lA : List Loc) : Prop := vV = none ∧ Fr n0 lA ∧ (Keep h0 hH [a]) ∧ (own_T Z hH a .int z (fun _ => p1))
set_option maxRecDepth 65536 in
set_option maxHeartbeats 40000000 in
theorem rm_fill (lL : Launch) (Z : State) (a0 : Array Value) (hw : ∀ d ∈ tables_1, d.before a0 Z = true) (ws : List Jvm.Cond) (a : Addr) (p1 : Int32) (z : Int32) (f : Int32 → Int32) (h0 : Heap) (n0 : Nat) (Z0 : n0 ≤ h0.size) (Ta : own_T Z h0 a .int z f) (ga : n0 ≤ a) :
    MetFree lL (⟨"java/util/Arrays", "fill", "([II)V"⟩ : MethodName) (head1 (Jvm.Cond.code (⟨"java/util/Arrays", "fill", "([II)V"⟩ : MethodName) jdk_65_method_103_code 4 none :: ws) ({ frames := 0, cells := 0, slots := 0, locals := 0 } : Room)) (fun aA uU => aA = #[(.ref a), (.int p1)] ∧ Z.Warmed39 uU.vm ∧ uU.heap = h0) (fun _ _ _ _ _ => True) (fun _ uU oO uU' => ∃ vV lA, oO = .returned vV ∧ Q_rm_fill Z a p1 z f h0 n0 vV uU'.heap lA ∧ FrameEnd uU oO uU' lA ({ frames := 0, cells := 0, slots := 0, locals := 0 } : Room).cells ({ frames := 0, cells := 0, slots := 0, locals := 0 } : Room).slots) := by
  refine MetFree.of_bodySF (plainFor_of_name own_pn_java_util_Arrays) hisR ?_
  intro pP eE sS mM args below meth cC s₁ Bd hml0 hP hK
  obtain ⟨rfl, hZ, hh⟩ := hP
  have hx := Bd.exec
  have hby := Bd.bytes
  have hml : cC.maxLocals = 4 := hml0
  have hown : sS.vm.findClass "java/util/Arrays" = some mM.cls := findClass_of_methodNamed Bd.named
  have hnm := (name_of_methodNamed Bd.named Bd.method).1
  have X0 : Stand pP lL eE ({ frames := 0, cells := 0, slots := 0, locals := 0 } : Room) sS mM #[(.ref a), (.int p1)] below meth cC s₁ [] 0 0 := Stand.of_body Bd
  have e0 : s₁.heap = h0 := by rw [← hh, Bd.state]; rfl
  have N0 := Fr.nil n0
  have K0 := Keep.refl h0 [a]
  show own_Fin pP eE below (fun tT oO => ∃ vV lA, oO = .returned vV ∧ Q_rm_fill Z a p1 z f h0 n0 vV tT.heap lA ∧ FrameEnd sS oO tT lA ({ frames := 0, cells := 0, slots := 0, locals := 0 } : Room).cells ({ frames := 0, cells := 0, slots := 0, locals := 0 } : Room).slots) (s₁.setTop (entryFrame mM #[(.ref a), (.int p1)] 4))
  refine own_fin (b := s₁.setTop (mkF mM 0 #[.val (.ref a), .val (.int p1), .unset, .unset] [])) (fun tT kK => castTop (own_ef_rm_fill mM a p1) kK) ?_
  refine own_fin (b := s₁.setTop (mkF mM 3 #[.val (.ref a), .val (.int p1), .val (.int (0 : Int32)), .unset] [(.ref a)])) (fun tT kK => ?_) ?_
  · show Steps pP.tables eE below (s₁.setTop (mkF mM 0 #[.val (.ref a), .val (.int p1), .unset, .unset] [])) tT
    refine XS.iconst X0.here hx rfl (Jvm.hb hby own_d2_0) ?_
    show Steps pP.tables eE below (s₁.setTop (mkF mM 1 #[.val (.ref a), .val (.int p1), .unset, .unset] [(.int (0 : Int32))])) tT
    refine XS.istoreN X0.here hx rfl (Jvm.hb hby own_d2_1) rfl (l' := #[.val (.ref a), .val (.int p1), .val (.int (0 : Int32)), .unset]) rfl ?_
    show Steps pP.tables eE below (s₁.setTop (mkF mM 2 #[.val (.ref a), .val (.int p1), .val (.int (0 : Int32)), .unset] [])) tT
    refine XS.aloadN X0.here hx rfl (Jvm.hb hby own_d2_2) rfl rfl ?_
    show Steps pP.tables eE below (s₁.setTop (mkF mM 3 #[.val (.ref a), .val (.int p1), .val (.int (0 : Int32)), .unset] [(.ref a)])) tT
    exact kK
  obtain ⟨cl1_, Ar1_, Sz1_, Nn1_, -⟩ := id Ta
  refine own_fin (b := s₁.setTop (mkF mM 5 #[.val (.ref a), .val (.int p1), .val (.int (0 : Int32)), .val (.int z)] [])) (fun tT kK => ?_) ?_
  · show Steps pP.tables eE below (s₁.setTop (mkF mM 3 #[.val (.ref a), .val (.int p1), .val (.int (0 : Int32)), .unset] [(.ref a)])) tT
    refine X0.arraylength hx (own_rw e0 Ar1_.1) (State.isArrayOf_alike hZ.alike Ar1_.2.1) (g := (mkF mM 3 #[.val (.ref a), .val (.int p1), .val (.int (0 : Int32)), .unset] [(.ref a)])) rfl rfl (Jvm.hb hby own_d2_3) _ ?_
    rw [len_of Sz1_ Nn1_]
    show Steps pP.tables eE below (s₁.setTop (mkF mM 4 #[.val (.ref a), .val (.int p1), .val (.int (0 : Int32)), .unset] [(.int z)])) tT
    refine XS.istoreN X0.here hx rfl (Jvm.hb hby own_d2_4) rfl (l' := #[.val (.ref a), .val (.int p1), .val (.int (0 : Int32)), .val (.int z)]) rfl ?_
    show Steps pP.tables eE below (s₁.setTop (mkF mM 5 #[.val (.ref a), .val (.int p1), .val (.int (0 : Int32)), .val (.int z)] [])) tT
    exact kK
  show own_Fin pP eE below _ (s₁.setTop (mkF mM 5 #[.val (.ref a), .val (.int p1), .val (.int (0 : Int32)), .val (.int z)] []))
  refine own_lpf Z a0 hw a p1 z f h0 n0 Z0 ga hx hZ hby hml hown ?_ z.toNatClampNeg 0 f _ _ _ (by omega) X0 e0 N0 K0 Ta (fun j h1 h2 => absurd h2 (Nat.not_lt_zero _))
  intro  T2_ h2_ L2_ X2_ e2_ N2_ K2_ p2__0
  show own_Fin pP eE below _ (T2_.setTop (mkF mM 20 #[.val (.ref a), .val (.int p1), .val (.int (Int32.ofNat z.toNatClampNeg)), .val (.int z)] []))
  obtain ⟨fs, hr, hrun, hended, hW, hsame⟩ := X2_.leave (v := none) (fun _ => rfl)
  refine ⟨_, _, ?_, hrun, hended, _, _, rfl, ?_, ⟨_, rfl⟩, hW, hsame.mono (by decide) (by decide)⟩
  · show Steps pP.tables eE below (T2_.setTop (mkF mM 20 #[.val (.ref a), .val (.int p1), .val (.int (Int32.ofNat z.toNatClampNeg)), .val (.int z)] [])) _
    exact X2_.returnOut hx Bd.returns (Jvm.hb hby own_d2_20) hr
  · show Q_rm_fill Z a p1 z f h0 n0 _ T2_.heap _
    rw [e2_]
    exact ⟨rfl, N2_, K2_, p2__0⟩
theorem own_d1_13 : decode prog_2_method_2_code 13 = .ok (.iload_n 2, 1) := by decide +kernel
theorem own_d1_14 : decode prog_2_method_2_code 14 = .ok (.aload_n 0, 1) := by decide +kernel
theorem own_d1_15 : decode prog_2_method_2_code 15 = .ok (.arraylength, 1) := by decide +kernel
theorem own_d1_16 : decode prog_2_method_2_code 16 = .ok (.if_icmp .ge 19, 3) := by decide +kernel
theorem own_d1_19 : decode prog_2_method_2_code 19 = .ok (.aload_n 1, 1) := by decide +kernel
theorem own_d1_20 : decode prog_2_method_2_code 20 = .ok (.aload_n 0, 1) := by decide +kernel
theorem own_d1_21 : decode prog_2_method_2_code 21 = .ok (.iload_n 2, 1) := by decide +kernel
theorem own_d1_22 : decode prog_2_method_2_code 22 = .ok (.baload, 1) := by decide +kernel
theorem own_d1_23 : decode prog_2_method_2_code 23 = .ok (.sipush 255, 3) := by decide +kernel
theorem own_d1_26 : decode prog_2_method_2_code 26 = .ok (.iand, 1) := by decide +kernel
theorem own_d1_27 : decode prog_2_method_2_code 27 = .ok (.iload_n 2, 1) := by decide +kernel
theorem own_d1_28 : decode prog_2_method_2_code 28 = .ok (.iastore, 1) := by decide +kernel
theorem own_d1_29 : decode prog_2_method_2_code 29 = .ok (.iinc 2 1, 3) := by decide +kernel
theorem own_d1_32 : decode prog_2_method_2_code 32 = .ok (.goto (-19), 3) := by decide +kernel
set_option maxRecDepth 65536 in
set_option maxHeartbeats 40000000 in
theorem own_lpr {pP : Program} {lL : Launch} {eE : Env} {R : Room} {sS : State} {mM : MethodId} {args : Array Value} {below : List Frame} {meth : Method} {cC : Code} {cells slots : Nat} {PP : State → Outcome → Prop} (Z : State) (a0 : Array Value) (hw : ∀ d ∈ tables_1, d.before a0 Z = true) (a : Addr) (kc : ClassId) (z : Int32) (xs : List Int32) (b : Addr) (h0 : Heap) (n0 : Nat) (Z0 : n0 ≤ h0.size) (gb : n0 ≤ b) (sb : h0.size ≤ b) (nab : a ≠ b) (hx : pP.tables.exec = Jvm.exec) (hZ : Z.Warmed39 sS.vm) (hby : cC.code = prog_2_method_2_code) (hml : cC.maxLocals = 3) (hown : sS.vm.findClass "com/example/needlework/needlework/BoyerMoore" = some mM.cls)
    (kont0 : ∀ (Th : State) (hh : Heap) (Lh : List Loc), Stand pP lL eE R sS mM args below meth cC Th Lh cells slots → Th.heap = hh → Fr n0 Lh → Keep h0 hh ([] : List Addr) → (Arv Z hh a kc .byte z (xs.map Value.int) (.int (0 : Int32))) → (own_T Z hh b .int (256 : Int32) (own_ft xs z.toNatClampNeg)) → own_Fin pP eE below PP (Th.setTop (mkF mM 35 #[.val (.ref a), .val (.ref b), .val (.int (Int32.ofNat z.toNatClampNeg))] []))) :
    ∀ (k i : Nat) (Th : State) (hh : Heap) (Lh : List Loc), i + k = z.toNatClampNeg → Stand pP lL eE R sS mM args below meth cC Th Lh cells slots → Th.heap = hh → Fr n0 Lh → Keep h0 hh ([] : List Addr) → (Arv Z hh a kc .byte z (xs.map Value.int) (.int (0 : Int32))) → (own_T Z hh b .int (256 : Int32) (own_ft xs i)) → own_Fin pP eE below PP (Th.setTop (mkF mM 13 #[.val (.ref a), .val (.ref b), .val (.int (Int32.ofNat i))] [])) := by
  intro k
  induction k with
  | zero =>
      intro i  Th hh Lh hik Xh eh Nh Kh Vi Ti
      show own_Fin pP eE below _ (Th.setTop (mkF mM 13 #[.val (.ref a), .val (.ref b), .val (.int (Int32.ofNat i))] []))
      have hz := own_V.nn Vi
      obtain rfl : i = z.toNatClampNeg := by omega
      show own_Fin pP eE below _ (Th.setTop (mkF mM 13 #[.val (.ref a), .val (.ref b), .val (.int (Int32.ofNat z.toNatClampNeg))] []))
      refine own_fin (b := Th.setTop (mkF mM 15 #[.val (.ref a), .val (.ref b), .val (.int (Int32.ofNat z.toNatClampNeg))] [(.ref a), (.int (Int32.ofNat z.toNatClampNeg))])) (fun tT kK => ?_) ?_
      · show Steps pP.tables eE below (Th.setTop (mkF mM 13 #[.val (.ref a), .val (.ref b), .val (.int (Int32.ofNat z.toNatClampNeg))] [])) tT
        refine XS.iloadN Xh.here hx rfl (Jvm.hb hby own_d1_13) rfl ?_
        show Steps pP.tables eE below (Th.setTop (mkF mM 14 #[.val (.ref a), .val (.ref b), .val (.int (Int32.ofNat z.toNatClampNeg))] [(.int (Int32.ofNat z.toNatClampNeg))])) tT
        refine XS.aloadN Xh.here hx rfl (Jvm.hb hby own_d1_14) rfl rfl ?_
        show Steps pP.tables eE below (Th.setTop (mkF mM 15 #[.val (.ref a), .val (.ref b), .val (.int (Int32.ofNat z.toNatClampNeg))] [(.ref a), (.int (Int32.ofNat z.toNatClampNeg))])) tT
        exact kK
      obtain ⟨cl1_, Ar1_, qk1_, Sz1_, Nn1_, Hh1_, Gg1_⟩ := id Vi
      refine own_fin (b := Th.setTop (mkF mM 35 #[.val (.ref a), .val (.ref b), .val (.int (Int32.ofNat z.toNatClampNeg))] [])) (fun tT kK => ?_) ?_
      · show Steps pP.tables eE below (Th.setTop (mkF mM 15 #[.val (.ref a), .val (.ref b), .val (.int (Int32.ofNat z.toNatClampNeg))] [(.ref a), (.int (Int32.ofNat z.toNatClampNeg))])) tT
        refine Xh.arraylength hx (own_rw eh Ar1_.1) (State.isArrayOf_alike hZ.alike Ar1_.2.1) (g := (mkF mM 15 #[.val (.ref a), .val (.ref b), .val (.int (Int32.ofNat z.toNatClampNeg))] [(.ref a), (.int (Int32.ofNat z.toNatClampNeg))])) rfl rfl (Jvm.hb hby own_d1_15) _ ?_
        rw [len_of Sz1_ Nn1_]
        show Steps pP.tables eE below (Th.setTop (mkF mM 16 #[.val (.ref a), .val (.ref b), .val (.int (Int32.ofNat z.toNatClampNeg))] [(.int z), (.int (Int32.ofNat z.toNatClampNeg))])) tT
        refine XS.icmpYes Xh.here hx rfl (pc0 := 16) (pc' := 35) rfl (Jvm.hb hby own_d1_16) rfl (flt (own_nlt hz : ¬ ((Int32.ofNat z.toNatClampNeg) < z))).2.1 (by decide) (by decide) ?_
        show Steps pP.tables eE below (Th.setTop (mkF mM 35 #[.val (.ref a), .val (.ref b), .val (.int (Int32.ofNat z.toNatClampNeg))] [])) tT
        exact kK
      exact kont0  _ _ _ Xh eh Nh Kh Vi Ti
  | succ k ih =>
      intro i  Th hh Lh hik Xh eh Nh Kh Vi Ti
      show own_Fin pP eE below _ (Th.setTop (mkF mM 13 #[.val (.ref a), .val (.ref b), .val (.int (Int32.ofNat i))] []))
      have hz := own_V.nn Vi
      have hi : i < z.toNatClampNeg := by omega
      refine own_fin (b := Th.setTop (mkF mM 15 #[.val (.ref a), .val (.ref b), .val (.int (Int32.ofNat i))] [(.ref a), (.int (Int32.ofNat i))])) (fun tT kK => ?_) ?_
      · show Steps pP.tables eE below (Th.setTop (mkF mM 13 #[.val (.ref a), .val (.ref b), .val (.int (Int32.ofNat i))] [])) tT
        refine XS.iloadN Xh.here hx rfl (Jvm.hb hby own_d1_13) rfl ?_
        show Steps pP.tables eE below (Th.setTop (mkF mM 14 #[.val (.ref a), .val (.ref b), .val (.int (Int32.ofNat i))] [(.int (Int32.ofNat i))])) tT
        refine XS.aloadN Xh.here hx rfl (Jvm.hb hby own_d1_14) rfl rfl ?_
        show Steps pP.tables eE below (Th.setTop (mkF mM 15 #[.val (.ref a), .val (.ref b), .val (.int (Int32.ofNat i))] [(.ref a), (.int (Int32.ofNat i))])) tT
        exact kK
      obtain ⟨cl2_, Ar2_, qk2_, Sz2_, Nn2_, Hh2_, Gg2_⟩ := id Vi
      refine own_fin (b := Th.setTop (mkF mM 22 #[.val (.ref a), .val (.ref b), .val (.int (Int32.ofNat i))] [(.int (Int32.ofNat i)), (.ref a), (.ref b)])) (fun tT kK => ?_) ?_
      · show Steps pP.tables eE below (Th.setTop (mkF mM 15 #[.val (.ref a), .val (.ref b), .val (.int (Int32.ofNat i))] [(.ref a), (.int (Int32.ofNat i))])) tT
        refine Xh.arraylength hx (own_rw eh Ar2_.1) (State.isArrayOf_alike hZ.alike Ar2_.2.1) (g := (mkF mM 15 #[.val (.ref a), .val (.ref b), .val (.int (Int32.ofNat i))] [(.ref a), (.int (Int32.ofNat i))])) rfl rfl (Jvm.hb hby own_d1_15) _ ?_
        rw [len_of Sz2_ Nn2_]
        show Steps pP.tables eE below (Th.setTop (mkF mM 16 #[.val (.ref a), .val (.ref b), .val (.int (Int32.ofNat i))] [(.int z), (.int (Int32.ofNat i))])) tT
        refine XS.icmpNo Xh.here hx rfl (Jvm.hb hby own_d1_16) rfl (tlt (own_ltz hz hi : (Int32.ofNat i) < z)).2.1 ?_
        show Steps pP.tables eE below (Th.setTop (mkF mM 19 #[.val (.ref a), .val (.ref b), .val (.int (Int32.ofNat i))] [])) tT
        refine XS.aloadN Xh.here hx rfl (Jvm.hb hby own_d1_19) rfl rfl ?_
        show Steps pP.tables eE below (Th.setTop (mkF mM 20 #[.val (.ref a), .val (.ref b), .val (.int (Int32.ofNat i))] [(.ref b)])) tT
        refine XS.aloadN Xh.here hx rfl (Jvm.hb hby own_d1_20) rfl rfl ?_
        show Steps pP.tables eE below (Th.setTop (mkF mM 21 #[.val (.ref a), .val (.ref b), .val (.int (Int32.ofNat i))] [(.ref a), (.ref b)])) tT
        refine XS.iloadN Xh.here hx rfl (Jvm.hb hby own_d1_21) rfl ?_
        show Steps pP.tables eE below (Th.setTop (mkF mM 22 #[.val (.ref a), .val (.ref b), .val (.int (Int32.ofNat i))] [(.int (Int32.ofNat i)), (.ref a), (.ref b)])) tT
        exact kK
      obtain ⟨cl3_, Ar3_, qk3_, Sz3_, Nn3_, Hh3_, Gg3_⟩ := id Vi
      have hin4_ : ¬ ((Int32.ofNat i) < 0 ∨ cl3_.slots.size ≤ ((Int32.ofNat i)).toNatClampNeg) := inb_of Sz3_ ⟨own_nn hz hi, own_ltz hz hi⟩
      have hat4_ : cl3_.slots[((Int32.ofNat i)).toNatClampNeg]? = some (.int (xs.getD i 0)) := Hh3_.at hin4_ (by rw [own_cl hz hi]; exact own_gm xs i)
      refine own_fin (b := Th.setTop (mkF mM 28 #[.val (.ref a), .val (.ref b), .val (.int (Int32.ofNat i))] [(.int (Int32.ofNat i)), (.int ((xs.getD i 0) &&& (255 : Int32))), (.ref b)])) (fun tT kK => ?_) ?_
      · show Steps pP.tables eE below (Th.setTop (mkF mM 22 #[.val (.ref a), .val (.ref b), .val (.int (Int32.ofNat i))] [(.int (Int32.ofNat i)), (.ref a), (.ref b)])) tT
        refine Xh.baloadBytes hx (j := (Int32.ofNat i)) (v := (.int (xs.getD i 0))) (own_rw eh Ar3_.1) (State.isArrayOf_alike hZ.alike Ar3_.2.1) Ar3_.2.2 hin4_ hat4_ (g := (mkF mM 22 #[.val (.ref a), .val (.ref b), .val (.int (Int32.ofNat i))] [(.int (Int32.ofNat i)), (.ref a), (.ref b)])) rfl rfl (Jvm.hb hby own_d1_22) _ ?_
        show Steps pP.tables eE below (Th.setTop (mkF mM 23 #[.val (.ref a), .val (.ref b), .val (.int (Int32.ofNat i))] [(.int (xs.getD i 0)), (.ref b)])) tT
        refine XS.sipush Xh.here hx rfl (Jvm.hb hby own_d1_23) ?_
        show Steps pP.tables eE below (Th.setTop (mkF mM 26 #[.val (.ref a), .val (.ref b), .val (.int (Int32.ofNat i))] [(.int (255 : Int32)), (.int (xs.getD i 0)), (.ref b)])) tT
        refine XS.iand Xh.here hx rfl (Jvm.hb hby own_d1_26) rfl ?_
        show Steps pP.tables eE below (Th.setTop (mkF mM 27 #[.val (.ref a), .val (.ref b), .val (.int (Int32.ofNat i))] [(.int ((xs.getD i 0) &&& (255 : Int32))), (.ref b)])) tT
        refine XS.iloadN Xh.here hx rfl (Jvm.hb hby own_d1_27) rfl ?_
        show Steps pP.tables eE below (Th.setTop (mkF mM 28 #[.val (.ref a), .val (.ref b), .val (.int (Int32.ofNat i))] [(.int (Int32.ofNat i)), (.int ((xs.getD i 0) &&& (255 : Int32))), (.ref b)])) tT
        exact kK
      obtain ⟨cl5_, Ar5_, Sz5_, Nn5_, Hh5_⟩ := id Ti
      have hin5_ : ¬ (((xs.getD i 0) &&& (255 : Int32)) < 0 ∨ cl5_.slots.size ≤ (((xs.getD i 0) &&& (255 : Int32))).toNatClampNeg) := inb_of Sz5_ (own_m255 (xs.getD i 0))
      obtain ⟨T5_, h5_, X5_, e5_, W5_, st5_⟩ := stI Xh hx hZ eh Ar5_ (j := ((xs.getD i 0) &&& (255 : Int32))) hin5_ (g := (mkF mM 28 #[.val (.ref a), .val (.ref b), .val (.int (Int32.ofNat i))] [(.int (Int32.ofNat i)), (.int ((xs.getD i 0) &&& (255 : Int32))), (.ref b)])) rfl rfl (Jvm.hb hby own_d1_28)
      have U5_ : own_T Z h5_ b .int (256 : Int32) (own_up (own_ft xs i) ((xs.getD i 0) &&& (255 : Int32)) (Int32.ofNat i)) := own_T.set ⟨cl5_, Ar5_, Sz5_, Nn5_, Hh5_⟩ W5_ (own_m255 (xs.getD i 0))
      have fc6_ := Vi.other W5_ nab
      have K5_ := Kh.wr W5_ (Or.inr sb)
      have N5_ := Fr.snoc X5_ Nh gb
      refine own_fin st5_ ?_
      show own_Fin pP eE below _ (T5_.setTop (mkF mM 29 #[.val (.ref a), .val (.ref b), .val (.int (Int32.ofNat i))] []))
      refine own_fin (b := T5_.setTop (mkF mM 13 #[.val (.ref a), .val (.ref b), .val (.int ((Int32.ofNat i) + (1 : Int32)))] [])) (fun tT kK => ?_) ?_
      · show Steps pP.tables eE below (T5_.setTop (mkF mM 29 #[.val (.ref a), .val (.ref b), .val (.int (Int32.ofNat i))] [])) tT
        refine XS.iinc X5_.here hx rfl (Jvm.hb hby own_d1_29) rfl (l' := #[.val (.ref a), .val (.ref b), .val (.int ((Int32.ofNat i) + (1 : Int32)))]) rfl ?_
        show Steps pP.tables eE below (T5_.setTop (mkF mM 32 #[.val (.ref a), .val (.ref b), .val (.int ((Int32.ofNat i) + (1 : Int32)))] [])) tT
        refine XS.goto X5_.here hx rfl (pc0 := 32) (pc' := 13) rfl (Jvm.hb hby own_d1_32) (by decide) (by decide) ?_
        show Steps pP.tables eE below (T5_.setTop (mkF mM 13 #[.val (.ref a), .val (.ref b), .val (.int ((Int32.ofNat i) + (1 : Int32)))] [])) tT
        exact kK
      rw [own_one i]
      exact ih (i + 1)  _ _ _ (by omega) X5_ e5_ N5_ K5_ fc6_ U5_
theorem own_d1_0 : decode prog_2_method_2_code 0 = .ok (.sipush 256, 3) := by decide +kernel
theorem own_d1_3 : decode prog_2_method_2_code 3 = .ok (.newarray .int, 2) := by decide +kernel
theorem own_d1_5 : decode prog_2_method_2_code 5 = .ok (.astore_n 1, 1) := by decide +kernel
theorem own_d1_6 : decode prog_2_method_2_code 6 = .ok (.aload_n 1, 1) := by decide +kernel
theorem own_d1_7 : decode prog_2_method_2_code 7 = .ok (.iconst (-1), 1) := by decide +kernel
theorem own_d1_8 : decode prog_2_method_2_code 8 = .ok (.invokestatic 16, 3) := by decide +kernel
theorem own_pd0 : parseMethodDescriptor "([II)V" = some ⟨[(.array .int), .int], none⟩ := by decide +kernel
theorem own_d1_11 : decode prog_2_method_2_code 11 = .ok (.iconst 0, 1) := by decide +kernel
theorem own_d1_12 : decode prog_2_method_2_code 12 = .ok (.istore_n 2, 1) := by decide +kernel
theorem own_d1_35 : decode prog_2_method_2_code 35 = .ok (.aload_n 1, 1) := by decide +kernel
theorem own_d1_36 : decode prog_2_method_2_code 36 = .ok (.areturn, 1) := by decide +kernel
theorem own_pn_com_example_needlework_needlework_BoyerMoore : plainName "com/example/needlework/needlework/BoyerMoore" = true := by first | (simp [plainName, overriddenIn]; done) | decide +kernel
theorem own_ef_rm_right (mM : MethodId) (x0 : Addr) : entryFrame mM #[(.ref x0)] 3 = mkF mM 0 #[.val (.ref x0), .unset, .unset] [] := by first | (simp [entryFrame, mkF, argsToLocals, Value.category]; done) | rfl
def Q_rm_right (Z : State) (a : Addr) (kc : ClassId) (z : Int32) (xs : List Int32) (h0 : Heap) (n0 : Nat) (vV : Option Value) (hH : Heap) (lA : List Loc) : Prop := ∃ b : Addr, vV = some (.ref b) ∧ Fr n0 lA ∧ (Keep h0 hH []) ∧ (h0.size ≤ b) ∧ (own_T Z hH b .int (256 : Int32) (own_ft xs z.toNatClampNeg))
set_option maxRecDepth 65536 in
set_option maxHeartbeats 40000000 in
theorem rm_right (lL : Launch) (Z : State) (a0 : Array Value) (hw : ∀ d ∈ tables_1, d.before a0 Z = true) (ws : List Jvm.Cond) (a : Addr) (kc : ClassId) (z : Int32) (xs : List Int32) (h0 : Heap) (n0 : Nat) (Z0 : n0 ≤ h0.size) (Va : Arv Z h0 a kc .byte z (xs.map Value.int) (.int (0 : Int32))) :
    MetFree lL (⟨"com/example/needlework/needlework/BoyerMoore", "rightmost", "([B)[I"⟩ : MethodName) (head1 (Jvm.Cond.code (⟨"com/example/needlework/needlework/BoyerMoore", "rightmost", "([B)[I"⟩ : MethodName) prog_2_method_2_code 3 (some (.array .int)) :: ws) ({ frames := 1, cells := 1, slots := 256, locals := 15 } : Room)) (fun aA uU => aA = #[(.ref a)] ∧ Z.Warmed39 uU.vm ∧ uU.heap = h0) (fun _ _ _ _ _ => True) (fun _ uU oO uU' => ∃ vV lA, oO = .returned vV ∧ Q_rm_right Z a kc z xs h0 n0 vV uU'.heap lA ∧ FrameEnd uU oO uU' lA ({ frames := 1, cells := 1, slots := 256, locals := 15 } : Room).cells ({ frames := 1, cells := 1, slots := 256, locals := 15 } : Room).slots) := by
  refine MetFree.of_bodySF (plainFor_of_name own_pn_com_example_needlework_needlework_BoyerMoore) hisR ?_
  intro pP eE sS mM args below meth cC s₁ Bd hml0 hP hK
  obtain ⟨rfl, hZ, hh⟩ := hP
  have hx := Bd.exec
  have hby := Bd.bytes
  have hml : cC.maxLocals = 3 := hml0
  have hown : sS.vm.findClass "com/example/needlework/needlework/BoyerMoore" = some mM.cls := findClass_of_methodNamed Bd.named
  have hnm := (name_of_methodNamed Bd.named Bd.method).1
  have X0 : Stand pP lL eE ({ frames := 1, cells := 1, slots := 256, locals := 15 } : Room) sS mM #[(.ref a)] below meth cC s₁ [] 0 0 := Stand.of_body Bd
  have e0 : s₁.heap = h0 := by rw [← hh, Bd.state]; rfl
  have N0 := Fr.nil n0
  have K0 := Keep.refl h0 ([] : List Addr)
  show own_Fin pP eE below (fun tT oO => ∃ vV lA, oO = .returned vV ∧ Q_rm_right Z a kc z xs h0 n0 vV tT.heap lA ∧ FrameEnd sS oO tT lA ({ frames := 1, cells := 1, slots := 256, locals := 15 } : Room).cells ({ frames := 1, cells := 1, slots := 256, locals := 15 } : Room).slots) (s₁.setTop (entryFrame mM #[(.ref a)] 3))
  refine own_fin (b := s₁.setTop (mkF mM 0 #[.val (.ref a), .unset, .unset] [])) (fun tT kK => castTop (own_ef_rm_right mM a) kK) ?_
  refine own_fin (b := s₁.setTop (mkF mM 3 #[.val (.ref a), .unset, .unset] [(.int (256 : Int32))])) (fun tT kK => ?_) ?_
  · show Steps pP.tables eE below (s₁.setTop (mkF mM 0 #[.val (.ref a), .unset, .unset] [])) tT
    refine XS.sipush X0.here hx rfl (Jvm.hb hby own_d1_0) ?_
    show Steps pP.tables eE below (s₁.setTop (mkF mM 3 #[.val (.ref a), .unset, .unset] [(.int (256 : Int32))])) tT
    exact kK
  obtain ⟨T1_, h1_, k1_, X1_, e1_, E1_, A1_, st1_⟩ := newP X0 hx hZ (hw _ (List.mem_of_getElem? (i := 5) rfl)) e0 (g := (mkF mM 3 #[.val (.ref a), .unset, .unset] [(.int (256 : Int32))])) rfl (Jvm.hb hby own_d1_3) rfl (by decide) (cap := 256) (by decide) (by decide) (by decide) (by decide)
  obtain ⟨b1_, g1_⟩ : ∃ z, z = h0.size := ⟨_, rfl⟩
  rw [← g1_] at A1_ st1_
  have sz_b1_ : h0.size ≤ b1_ := Nat.le_trans K0.1 (Nat.le_of_eq g1_.symm)
  have ge_b1_ : n0 ≤ b1_ := Nat.le_trans Z0 sz_b1_
  have ne2_ : a ≠ b1_ := Nat.ne_of_lt (Nat.lt_of_lt_of_le Va.lt (Nat.le_of_eq g1_.symm))
  have fc3_ := Va.ext E1_
  have K1_ := K0.ext E1_
  have V1_ : Arv Z h1_ b1_ k1_ .int (256 : Int32) [] (.int (0 : Int32)) := Arv.new A1_ (by decide)
  refine own_fin st1_ ?_
  show own_Fin pP eE below _ (T1_.setTop (mkF mM 5 #[.val (.ref a), .unset, .unset] [(.ref b1_)]))
  have Tb : own_T Z h1_ b1_ .int (256 : Int32) (fun _ => 0) := own_T.new A1_ (by decide) rfl
  refine own_fin (b := T1_.setTop (mkF mM 8 #[.val (.ref a), .val (.ref b1_), .unset] [(.int (-1 : Int32)), (.ref b1_)])) (fun tT kK => ?_) ?_
  · show Steps pP.tables eE below (T1_.setTop (mkF mM 5 #[.val (.ref a), .unset, .unset] [(.ref b1_)])) tT
    refine XS.astoreN X1_.here hx rfl (Jvm.hb hby own_d1_5) rfl rfl (l' := #[.val (.ref a), .val (.ref b1_), .unset]) rfl ?_
    show Steps pP.tables eE below (T1_.setTop (mkF mM 6 #[.val (.ref a), .val (.ref b1_), .unset] [])) tT
    refine XS.aloadN X1_.here hx rfl (Jvm.hb hby own_d1_6) rfl rfl ?_
    show Steps pP.tables eE below (T1_.setTop (mkF mM 7 #[.val (.ref a), .val (.ref b1_), .unset] [(.ref b1_)])) tT
    refine XS.iconst X1_.here hx rfl (Jvm.hb hby own_d1_7) ?_
    show Steps pP.tables eE below (T1_.setTop (mkF mM 8 #[.val (.ref a), .val (.ref b1_), .unset] [(.int (-1 : Int32)), (.ref b1_)])) tT
    exact kK
  obtain ⟨_, _, ⟨T4_, L4_, k4_, n4_⟩, -, X4_, ⟨Lc4_, hQ4_, l4_, y4_, z4_⟩, st4_⟩ := Jvm.LawKit.callS X1_ hx (y := (⟨"java/util/Arrays", "fill", "([II)V"⟩ : MethodName)) hown (mvT hZ (hw _ (List.mem_of_getElem? (i := 6) rfl))) (mvT hZ (hw _ (List.mem_of_getElem? (i := 7) rfl))) (mvT hZ (hw _ (List.mem_of_getElem? (i := 8) rfl))) (mvT hZ (hw _ (List.mem_of_getElem? (i := 9) rfl))) (by decide) (backOf (W := 0) (rm_fill lL Z a0 hw [] b1_ (-1 : Int32) (256 : Int32) (fun _ => 0) h1_ n0 (Nat.le_trans Z0 K1_.1) Tb ge_b1_) hZ (hw _ (List.mem_of_getElem? (i := 9) rfl)) (hw _ (List.mem_of_getElem? (i := 8) rfl)) (by decide) (by decide)) (g := (mkF mM 8 #[.val (.ref a), .val (.ref b1_), .unset] [(.int (-1 : Int32)), (.ref b1_)])) rfl (by rw [hml]; rfl) (argsL := [(.ref b1_), (.int (-1 : Int32))]) (rest := []) (lenOf own_pd0 rfl) rfl (by show 2 * 0 + _ ≤ _; exact Nat.le_of_eq rfl) (Jvm.hb hby own_d1_8) (fun _ _ => ⟨rfl, e1_, (by decide : 1 + 0 ≤ _), (by decide : 256 + 0 ≤ _)⟩)
  dsimp only [Pt.U, Pt.locs, Pt.cells, Pt.slots] at X4_ l4_ y4_ z4_ st4_ hQ4_
  subst l4_ y4_ z4_
  obtain ⟨rfl, N4_q, p4__0, p4__1⟩ := hQ4_
  have N4_ := Fr.app N0 N4_q
  have fc5_ := fc3_.keep p4__0 (ninS ne2_ nin0)
  have K4_ := K1_.trans p4__0 (allS (Or.inr sz_b1_) all0)
  refine own_fin (fun tT kK => st4_ tT kK) ?_
  show own_Fin pP eE below _ (T4_.setTop (mkF mM 11 #[.val (.ref a), .val (.ref b1_), .unset] []))
  refine own_fin (b := T4_.setTop (mkF mM 13 #[.val (.ref a), .val (.ref b1_), .val (.int (0 : Int32))] [])) (fun tT kK => ?_) ?_
  · show Steps pP.tables eE below (T4_.setTop (mkF mM 11 #[.val (.ref a), .val (.ref b1_), .unset] [])) tT
    refine XS.iconst X4_.here hx rfl (Jvm.hb hby own_d1_11) ?_
    show Steps pP.tables eE below (T4_.setTop (mkF mM 12 #[.val (.ref a), .val (.ref b1_), .unset] [(.int (0 : Int32))])) tT
    refine XS.istoreN X4_.here hx rfl (Jvm.hb hby own_d1_12) rfl (l' := #[.val (.ref a), .val (.ref b1_), .val (.int (0 : Int32))]) rfl ?_
    show Steps pP.tables eE below (T4_.setTop (mkF mM 13 #[.val (.ref a), .val (.ref b1_), .val (.int (0 : Int32))] [])) tT
    exact kK
  show own_Fin pP eE below _ (T4_.setTop (mkF mM 13 #[.val (.ref a), .val (.ref b1_), .val (.int (0 : Int32))] []))
  refine own_lpr Z a0 hw a kc z xs b1_ h0 n0 Z0 ge_b1_ sz_b1_ ne2_ hx hZ hby hml hown ?_ z.toNatClampNeg 0  _ _ _ (by omega) X4_ rfl N4_ K4_ fc5_ p4__1
  intro  T6_ h6_ L6_ X6_ e6_ N6_ K6_ p6__0 p6__1
  show own_Fin pP eE below _ (T6_.setTop (mkF mM 35 #[.val (.ref a), .val (.ref b1_), .val (.int (Int32.ofNat z.toNatClampNeg))] []))
  refine own_fin (b := T6_.setTop (mkF mM 36 #[.val (.ref a), .val (.ref b1_), .val (.int (Int32.ofNat z.toNatClampNeg))] [(.ref b1_)])) (fun tT kK => ?_) ?_
  · show Steps pP.tables eE below (T6_.setTop (mkF mM 35 #[.val (.ref a), .val (.ref b1_), .val (.int (Int32.ofNat z.toNatClampNeg))] [])) tT
    refine XS.aloadN X6_.here hx rfl (Jvm.hb hby own_d1_35) rfl rfl ?_
    show Steps pP.tables eE below (T6_.setTop (mkF mM 36 #[.val (.ref a), .val (.ref b1_), .val (.int (Int32.ofNat z.toNatClampNeg))] [(.ref b1_)])) tT
    exact kK
  obtain ⟨fs, hr, hrun, hended, hW, hsame⟩ := X6_.leave (v := some (.ref b1_)) (fun h => by rw [Bd.returns] at h; cases h)
  refine ⟨_, _, ?_, hrun, hended, _, _, rfl, ?_, ⟨_, rfl⟩, hW, hsame.mono (by decide) (by decide)⟩
  · show Steps pP.tables eE below (T6_.setTop (mkF mM 36 #[.val (.ref a), .val (.ref b1_), .val (.int (Int32.ofNat z.toNatClampNeg))] [(.ref b1_)])) _
    exact retOut X6_ hx Bd.returns rfl (Or.inr (Or.inr (Or.inr (Or.inr ⟨rfl, rfl, rfl⟩)))) (Jvm.hb hby own_d1_36) hr
  · show Q_rm_right Z a kc z xs h0 n0 _ T6_.heap _
    rw [e6_]
    exact ⟨b1_, rfl, N6_, K6_, sz_b1_, p6__1⟩
theorem own_d3_0 : decode method_3_code 0 = .ok (.iconst (-1), 1) := by decide +kernel
theorem own_d3_1 : decode method_3_code 1 = .ok (.istore_n 3, 1) := by decide +kernel
theorem own_d3_2 : decode method_3_code 2 = .ok (.iload_n 1, 1) := by decide +kernel
theorem own_d3_3 : decode method_3_code 3 = .ok (.ifCond .le 16, 3) := by decide +kernel
theorem own_d3_6 : decode method_3_code 6 = .ok (.aload_n 0, 1) := by decide +kernel
theorem own_d3_7 : decode method_3_code 7 = .ok (.iconst 0, 1) := by decide +kernel
theorem own_d3_8 : decode method_3_code 8 = .ok (.baload, 1) := by decide +kernel
theorem own_d3_9 : decode method_3_code 9 = .ok (.sipush 255, 3) := by decide +kernel
theorem own_d3_12 : decode method_3_code 12 = .ok (.iand, 1) := by decide +kernel
theorem own_d3_13 : decode method_3_code 13 = .ok (.iload_n 2, 1) := by decide +kernel
theorem own_d3_14 : decode method_3_code 14 = .ok (.if_icmp .ne 5, 3) := by decide +kernel
theorem own_d3_17 : decode method_3_code 17 = .ok (.iconst 0, 1) := by decide +kernel
theorem own_d3_18 : decode method_3_code 18 = .ok (.istore_n 3, 1) := by decide +kernel
theorem own_d3_19 : decode method_3_code 19 = .ok (.iload_n 1, 1) := by decide +kernel
theorem own_d3_20 : decode method_3_code 20 = .ok (.iconst 1, 1) := by decide +kernel
theorem own_d3_21 : decode method_3_code 21 = .ok (.if_icmp .le 16, 3) := by decide +kernel
theorem own_d3_24 : decode method_3_code 24 = .ok (.aload_n 0, 1) := by decide +kernel
theorem own_d3_25 : decode method_3_code 25 = .ok (.iconst 1, 1) := by decide +kernel
theorem own_d3_26 : decode method_3_code 26 = .ok (.baload, 1) := by decide +kernel
theorem own_d3_27 : decode method_3_code 27 = .ok (.sipush 255, 3) := by decide +kernel
theorem own_d3_30 : decode method_3_code 30 = .ok (.iand, 1) := by decide +kernel
theorem own_d3_31 : decode method_3_code 31 = .ok (.iload_n 2, 1) := by decide +kernel
theorem own_d3_32 : decode method_3_code 32 = .ok (.if_icmp .ne 5, 3) := by decide +kernel
theorem own_d3_35 : decode method_3_code 35 = .ok (.iconst 1, 1) := by decide +kernel
theorem own_d3_36 : decode method_3_code 36 = .ok (.istore_n 3, 1) := by decide +kernel
theorem own_d3_37 : decode method_3_code 37 = .ok (.iload_n 1, 1) := by decide +kernel
theorem own_d3_38 : decode method_3_code 38 = .ok (.iconst 2, 1) := by decide +kernel
theorem own_d3_39 : decode method_3_code 39 = .ok (.if_icmp .le 16, 3) := by decide +kernel
theorem own_d3_42 : decode method_3_code 42 = .ok (.aload_n 0, 1) := by decide +kernel
theorem own_d3_43 : decode method_3_code 43 = .ok (.iconst 2, 1) := by decide +kernel
theorem own_d3_44 : decode method_3_code 44 = .ok (.baload, 1) := by decide +kernel
theorem own_d3_45 : decode method_3_code 45 = .ok (.sipush 255, 3) := by decide +kernel
theorem own_d3_48 : decode method_3_code 48 = .ok (.iand, 1) := by decide +kernel
theorem own_d3_49 : decode method_3_code 49 = .ok (.iload_n 2, 1) := by decide +kernel
theorem own_d3_50 : decode method_3_code 50 = .ok (.if_icmp .ne 5, 3) := by decide +kernel
theorem own_d3_53 : decode method_3_code 53 = .ok (.iconst 2, 1) := by decide +kernel
theorem own_d3_54 : decode method_3_code 54 = .ok (.istore_n 3, 1) := by decide +kernel
theorem own_d3_55 : decode method_3_code 55 = .ok (.iload_n 1, 1) := by decide +kernel
theorem own_d3_56 : decode method_3_code 56 = .ok (.iconst 3, 1) := by decide +kernel
theorem own_d3_57 : decode method_3_code 57 = .ok (.if_icmp .le 16, 3) := by decide +kernel
theorem own_d3_60 : decode method_3_code 60 = .ok (.aload_n 0, 1) := by decide +kernel
theorem own_d3_61 : decode method_3_code 61 = .ok (.iconst 3, 1) := by decide +kernel
theorem own_d3_62 : decode method_3_code 62 = .ok (.baload, 1) := by decide +kernel
theorem own_d3_63 : decode method_3_code 63 = .ok (.sipush 255, 3) := by decide +kernel
theorem own_d3_66 : decode method_3_code 66 = .ok (.iand, 1) := by decide +kernel
theorem own_d3_67 : decode method_3_code 67 = .ok (.iload_n 2, 1) := by decide +kernel
theorem own_d3_68 : decode method_3_code 68 = .ok (.if_icmp .ne 5, 3) := by decide +kernel
theorem own_d3_71 : decode method_3_code 71 = .ok (.iconst 3, 1) := by decide +kernel
theorem own_d3_72 : decode method_3_code 72 = .ok (.istore_n 3, 1) := by decide +kernel
theorem own_d3_73 : decode method_3_code 73 = .ok (.iload_n 1, 1) := by decide +kernel
theorem own_d3_74 : decode method_3_code 74 = .ok (.iconst 4, 1) := by decide +kernel
theorem own_d3_75 : decode method_3_code 75 = .ok (.if_icmp .le 16, 3) := by decide +kernel
theorem own_d3_78 : decode method_3_code 78 = .ok (.aload_n 0, 1) := by decide +kernel
theorem own_d3_79 : decode method_3_code 79 = .ok (.iconst 4, 1) := by decide +kernel
theorem own_d3_80 : decode method_3_code 80 = .ok (.baload, 1) := by decide +kernel
theorem own_d3_81 : decode method_3_code 81 = .ok (.sipush 255, 3) := by decide +kernel
theorem own_d3_84 : decode method_3_code 84 = .ok (.iand, 1) := by decide +kernel
theorem own_d3_85 : decode method_3_code 85 = .ok (.iload_n 2, 1) := by decide +kernel
theorem own_d3_86 : decode method_3_code 86 = .ok (.if_icmp .ne 5, 3) := by decide +kernel
theorem own_d3_89 : decode method_3_code 89 = .ok (.iconst 4, 1) := by decide +kernel
theorem own_d3_90 : decode method_3_code 90 = .ok (.istore_n 3, 1) := by decide +kernel
theorem own_d3_91 : decode method_3_code 91 = .ok (.iload_n 1, 1) := by decide +kernel
theorem own_d3_92 : decode method_3_code 92 = .ok (.iconst 5, 1) := by decide +kernel
theorem own_d3_93 : decode method_3_code 93 = .ok (.if_icmp .le 16, 3) := by decide +kernel
theorem own_d3_96 : decode method_3_code 96 = .ok (.aload_n 0, 1) := by decide +kernel
theorem own_d3_97 : decode method_3_code 97 = .ok (.iconst 5, 1) := by decide +kernel
theorem own_d3_98 : decode method_3_code 98 = .ok (.baload, 1) := by decide +kernel
theorem own_d3_99 : decode method_3_code 99 = .ok (.sipush 255, 3) := by decide +kernel
theorem own_d3_102 : decode method_3_code 102 = .ok (.iand, 1) := by decide +kernel
theorem own_d3_103 : decode method_3_code 103 = .ok (.iload_n 2, 1) := by decide +kernel
theorem own_d3_104 : decode method_3_code 104 = .ok (.if_icmp .ne 5, 3) := by decide +kernel
theorem own_d3_107 : decode method_3_code 107 = .ok (.iconst 5, 1) := by decide +kernel
theorem own_d3_108 : decode method_3_code 108 = .ok (.istore_n 3, 1) := by decide +kernel
theorem own_d3_109 : decode method_3_code 109 = .ok (.iload_n 1, 1) := by decide +kernel
theorem own_d3_110 : decode method_3_code 110 = .ok (.bipush 6, 2) := by decide +kernel
theorem own_d3_112 : decode method_3_code 112 = .ok (.if_icmp .le 18, 3) := by decide +kernel
theorem own_d3_115 : decode method_3_code 115 = .ok (.aload_n 0, 1) := by decide +kernel
theorem own_d3_116 : decode method_3_code 116 = .ok (.bipush 6, 2) := by decide +kernel
theorem own_d3_118 : decode method_3_code 118 = .ok (.baload, 1) := by decide +kernel
theorem own_d3_119 : decode method_3_code 119 = .ok (.sipush 255, 3) := by decide +kernel
theorem own_d3_122 : decode method_3_code 122 = .ok (.iand, 1) := by decide +kernel
theorem own_d3_123 : decode method_3_code 123 = .ok (.iload_n 2, 1) := by decide +kernel
theorem own_d3_124 : decode method_3_code 124 = .ok (.if_icmp .ne 6, 3) := by decide +kernel
theorem own_d3_127 : decode method_3_code 127 = .ok (.bipush 6, 2) := by decide +kernel
theorem own_d3_129 : decode method_3_code 129 = .ok (.istore_n 3, 1) := by decide +kernel
theorem own_d3_130 : decode method_3_code 130 = .ok (.iload_n 1, 1) := by decide +kernel
theorem own_d3_131 : decode method_3_code 131 = .ok (.bipush 7, 2) := by decide +kernel
theorem own_d3_133 : decode method_3_code 133 = .ok (.if_icmp .le 18, 3) := by decide +kernel
theorem own_d3_136 : decode method_3_code 136 = .ok (.aload_n 0, 1) := by decide +kernel
theorem own_d3_137 : decode method_3_code 137 = .ok (.bipush 7, 2) := by decide +kernel
theorem own_d3_139 : decode method_3_code 139 = .ok (.baload, 1) := by decide +kernel
theorem own_d3_140 : decode method_3_code 140 = .ok (.sipush 255, 3) := by decide +kernel
theorem own_d3_143 : decode method_3_code 143 = .ok (.iand, 1) := by decide +kernel
theorem own_d3_144 : decode method_3_code 144 = .ok (.iload_n 2, 1) := by decide +kernel
theorem own_d3_145 : decode method_3_code 145 = .ok (.if_icmp .ne 6, 3) := by decide +kernel
theorem own_d3_148 : decode method_3_code 148 = .ok (.bipush 7, 2) := by decide +kernel
theorem own_d3_150 : decode method_3_code 150 = .ok (.istore_n 3, 1) := by decide +kernel
theorem own_d3_151 : decode method_3_code 151 = .ok (.iload_n 3, 1) := by decide +kernel
theorem own_d3_152 : decode method_3_code 152 = .ok (.ireturn, 1) := by decide +kernel
theorem own_pn_com_example_needlework_needlework_BoyerMooreRightmostPinLaw : plainName "com/example/needlework/needlework/BoyerMooreRightmostPinLaw" = true := by first | (simp [plainName, overriddenIn]; done) | decide +kernel
theorem own_ef_rm_ref (mM : MethodId) (x0 : Addr) (x1 : Int32) (x2 : Int32) : entryFrame mM #[(.ref x0), (.int x1), (.int x2)] 4 = mkF mM 0 #[.val (.ref x0), .val (.int x1), .val (.int x2), .unset] [] := by first | (simp [entryFrame, mkF, argsToLocals, Value.category]; done) | rfl
def Q_rm_ref (Z : State) (a : Addr) (kc : ClassId) (n : Int32) (v : Int32) (x0 : Int32) (x1 : Int32) (x2 : Int32) (x3 : Int32) (x4 : Int32) (x5 : Int32) (x6 : Int32) (x7 : Int32) (h0 : Heap) (n0 : Nat) (vV : Option Value) (hH : Heap) (lA : List Loc) : Prop := vV = some (.int (own_ref n v x0 x1 x2 x3 x4 x5 x6 x7)) ∧ Fr n0 lA ∧ (hH = h0)
set_option maxRecDepth 65536 in
set_option maxHeartbeats 40000000 in
theorem rm_ref (lL : Launch) (Z : State) (a0 : Array Value) (hw : ∀ d ∈ tables_1, d.before a0 Z = true) (ws : List Jvm.Cond) (a : Addr) (kc : ClassId) (n : Int32) (v : Int32) (x0 : Int32) (x1 : Int32) (x2 : Int32) (x3 : Int32) (x4 : Int32) (x5 : Int32) (x6 : Int32) (x7 : Int32) (h0 : Heap) (n0 : Nat) (Z0 : n0 ≤ h0.size) (Va : Arv Z h0 a kc .byte (8 : Int32) [(.int x0), (.int x1), (.int x2), (.int x3), (.int x4), (.int x5), (.int x6), (.int x7)] (.int (0 : Int32))) :
    MetFree lL (⟨"com/example/needlework/needlework/BoyerMooreRightmostPinLaw", "ref", "([BII)I"⟩ : MethodName) (head1 (Jvm.Cond.code (⟨"com/example/needlework/needlework/BoyerMooreRightmostPinLaw", "ref", "([BII)I"⟩ : MethodName) method_3_code 4 (some .int) :: ws) ({ frames := 0, cells := 0, slots := 0, locals := 0 } : Room)) (fun aA uU => aA = #[(.ref a), (.int n), (.int v)] ∧ Z.Warmed39 uU.vm ∧ uU.heap = h0) (fun _ _ _ _ _ => True) (fun _ uU oO uU' => ∃ vV lA, oO = .returned vV ∧ Q_rm_ref Z a kc n v x0 x1 x2 x3 x4 x5 x6 x7 h0 n0 vV uU'.heap lA ∧ FrameEnd uU oO uU' lA ({ frames := 0, cells := 0, slots := 0, locals := 0 } : Room).cells ({ frames := 0, cells := 0, slots := 0, locals := 0 } : Room).slots) := by
  refine MetFree.of_bodySF (plainFor_of_name own_pn_com_example_needlework_needlework_BoyerMooreRightmostPinLaw) hisR ?_
  intro pP eE sS mM args below meth cC s₁ Bd hml0 hP hK
  obtain ⟨rfl, hZ, hh⟩ := hP
  have hx := Bd.exec
  have hby := Bd.bytes
  have hml : cC.maxLocals = 4 := hml0
  have hown : sS.vm.findClass "com/example/needlework/needlework/BoyerMooreRightmostPinLaw" = some mM.cls := findClass_of_methodNamed Bd.named
  have hnm := (name_of_methodNamed Bd.named Bd.method).1
  have X0 : Stand pP lL eE ({ frames := 0, cells := 0, slots := 0, locals := 0 } : Room) sS mM #[(.ref a), (.int n), (.int v)] below meth cC s₁ [] 0 0 := Stand.of_body Bd
  have e0 : s₁.heap = h0 := by rw [← hh, Bd.state]; rfl
  have N0 := Fr.nil n0
  have K0 := Keep.refl h0 ([] : List Addr)
  show own_Fin pP eE below (fun tT oO => ∃ vV lA, oO = .returned vV ∧ Q_rm_ref Z a kc n v x0 x1 x2 x3 x4 x5 x6 x7 h0 n0 vV tT.heap lA ∧ FrameEnd sS oO tT lA ({ frames := 0, cells := 0, slots := 0, locals := 0 } : Room).cells ({ frames := 0, cells := 0, slots := 0, locals := 0 } : Room).slots) (s₁.setTop (entryFrame mM #[(.ref a), (.int n), (.int v)] 4))
  refine own_fin (b := s₁.setTop (mkF mM 0 #[.val (.ref a), .val (.int n), .val (.int v), .unset] [])) (fun tT kK => castTop (own_ef_rm_ref mM a n v) kK) ?_
  obtain ⟨cl1_, Ar1_, qk1_, Sz1_, Nn1_, Hh1_, Gg1_⟩ := id Va
  have hin2_ : ¬ ((0 : Int32) < 0 ∨ cl1_.slots.size ≤ ((0 : Int32)).toNatClampNeg) := inb_of Sz1_ ⟨by decide, by decide⟩
  have hat2_ : cl1_.slots[((0 : Int32)).toNatClampNeg]? = some (.int x0) := Hh1_.at hin2_ rfl
  have hin3_ : ¬ ((1 : Int32) < 0 ∨ cl1_.slots.size ≤ ((1 : Int32)).toNatClampNeg) := inb_of Sz1_ ⟨by decide, by decide⟩
  have hat3_ : cl1_.slots[((1 : Int32)).toNatClampNeg]? = some (.int x1) := Hh1_.at hin3_ rfl
  have hin4_ : ¬ ((2 : Int32) < 0 ∨ cl1_.slots.size ≤ ((2 : Int32)).toNatClampNeg) := inb_of Sz1_ ⟨by decide, by decide⟩
  have hat4_ : cl1_.slots[((2 : Int32)).toNatClampNeg]? = some (.int x2) := Hh1_.at hin4_ rfl
  have hin5_ : ¬ ((3 : Int32) < 0 ∨ cl1_.slots.size ≤ ((3 : Int32)).toNatClampNeg) := inb_of Sz1_ ⟨by decide, by decide⟩
  have hat5_ : cl1_.slots[((3 : Int32)).toNatClampNeg]? = some (.int x3) := Hh1_.at hin5_ rfl
  have hin6_ : ¬ ((4 : Int32) < 0 ∨ cl1_.slots.size ≤ ((4 : Int32)).toNatClampNeg) := inb_of Sz1_ ⟨by decide, by decide⟩
  have hat6_ : cl1_.slots[((4 : Int32)).toNatClampNeg]? = some (.int x4) := Hh1_.at hin6_ rfl
  have hin7_ : ¬ ((5 : Int32) < 0 ∨ cl1_.slots.size ≤ ((5 : Int32)).toNatClampNeg) := inb_of Sz1_ ⟨by decide, by decide⟩
  have hat7_ : cl1_.slots[((5 : Int32)).toNatClampNeg]? = some (.int x5) := Hh1_.at hin7_ rfl
  have hin8_ : ¬ ((6 : Int32) < 0 ∨ cl1_.slots.size ≤ ((6 : Int32)).toNatClampNeg) := inb_of Sz1_ ⟨by decide, by decide⟩
  have hat8_ : cl1_.slots[((6 : Int32)).toNatClampNeg]? = some (.int x6) := Hh1_.at hin8_ rfl
  have hin9_ : ¬ ((7 : Int32) < 0 ∨ cl1_.slots.size ≤ ((7 : Int32)).toNatClampNeg) := inb_of Sz1_ ⟨by decide, by decide⟩
  have hat9_ : cl1_.slots[((7 : Int32)).toNatClampNeg]? = some (.int x7) := Hh1_.at hin9_ rfl
  refine own_fin (b := s₁.setTop (mkF mM 3 #[.val (.ref a), .val (.int n), .val (.int v), .val (.int (-1 : Int32))] [(.int n)])) (fun tT kK => ?_) ?_
  · show Steps pP.tables eE below (s₁.setTop (mkF mM 0 #[.val (.ref a), .val (.int n), .val (.int v), .unset] [])) tT
    refine XS.iconst X0.here hx rfl (Jvm.hb hby own_d3_0) ?_
    show Steps pP.tables eE below (s₁.setTop (mkF mM 1 #[.val (.ref a), .val (.int n), .val (.int v), .unset] [(.int (-1 : Int32))])) tT
    refine XS.istoreN X0.here hx rfl (Jvm.hb hby own_d3_1) rfl (l' := #[.val (.ref a), .val (.int n), .val (.int v), .val (.int (-1 : Int32))]) rfl ?_
    show Steps pP.tables eE below (s₁.setTop (mkF mM 2 #[.val (.ref a), .val (.int n), .val (.int v), .val (.int (-1 : Int32))] [])) tT
    refine XS.iloadN X0.here hx rfl (Jvm.hb hby own_d3_2) rfl ?_
    show Steps pP.tables eE below (s₁.setTop (mkF mM 3 #[.val (.ref a), .val (.int n), .val (.int v), .val (.int (-1 : Int32))] [(.int n)])) tT
    exact kK
  obtain ⟨r1, hr1, st10_⟩ : ∃ r1 : Int32, (r1 = (if (0 : Int32) < n then (if (x0 &&& (255 : Int32)) = v then (0 : Int32) else (-1 : Int32)) else (-1 : Int32))) ∧ ∀ tT, Steps pP.tables eE below (s₁.setTop (mkF mM 19 #[.val (.ref a), .val (.int n), .val (.int v), .val (.int r1)] [])) tT → Steps pP.tables eE below (s₁.setTop (mkF mM 3 #[.val (.ref a), .val (.int n), .val (.int v), .val (.int (-1 : Int32))] [(.int n)])) tT := by
    by_cases hm1 : (0 : Int32) < n
    · by_cases hm2 : (x0 &&& (255 : Int32)) = v
      · refine ⟨(0 : Int32), by rw [if_pos hm1, if_pos hm2], fun tT kK => ?_⟩
        refine XS.ifNo X0.here hx rfl (Jvm.hb hby own_d3_3) rfl ((if0 _ _).trans (tlt (hm1 : (0 : Int32) < n)).2.2.2) ?_
        show Steps pP.tables eE below (s₁.setTop (mkF mM 6 #[.val (.ref a), .val (.int n), .val (.int v), .val (.int (-1 : Int32))] [])) tT
        refine XS.aloadN X0.here hx rfl (Jvm.hb hby own_d3_6) rfl rfl ?_
        show Steps pP.tables eE below (s₁.setTop (mkF mM 7 #[.val (.ref a), .val (.int n), .val (.int v), .val (.int (-1 : Int32))] [(.ref a)])) tT
        refine XS.iconst X0.here hx rfl (Jvm.hb hby own_d3_7) ?_
        show Steps pP.tables eE below (s₁.setTop (mkF mM 8 #[.val (.ref a), .val (.int n), .val (.int v), .val (.int (-1 : Int32))] [(.int (0 : Int32)), (.ref a)])) tT
        refine X0.baloadBytes hx (j := (0 : Int32)) (v := (.int x0)) (own_rw e0 Ar1_.1) (State.isArrayOf_alike hZ.alike Ar1_.2.1) Ar1_.2.2 hin2_ hat2_ (g := (mkF mM 8 #[.val (.ref a), .val (.int n), .val (.int v), .val (.int (-1 : Int32))] [(.int (0 : Int32)), (.ref a)])) rfl rfl (Jvm.hb hby own_d3_8) _ ?_
        show Steps pP.tables eE below (s₁.setTop (mkF mM 9 #[.val (.ref a), .val (.int n), .val (.int v), .val (.int (-1 : Int32))] [(.int x0)])) tT
        refine XS.sipush X0.here hx rfl (Jvm.hb hby own_d3_9) ?_
        show Steps pP.tables eE below (s₁.setTop (mkF mM 12 #[.val (.ref a), .val (.int n), .val (.int v), .val (.int (-1 : Int32))] [(.int (255 : Int32)), (.int x0)])) tT
        refine XS.iand X0.here hx rfl (Jvm.hb hby own_d3_12) rfl ?_
        show Steps pP.tables eE below (s₁.setTop (mkF mM 13 #[.val (.ref a), .val (.int n), .val (.int v), .val (.int (-1 : Int32))] [(.int (x0 &&& (255 : Int32)))])) tT
        refine XS.iloadN X0.here hx rfl (Jvm.hb hby own_d3_13) rfl ?_
        show Steps pP.tables eE below (s₁.setTop (mkF mM 14 #[.val (.ref a), .val (.int n), .val (.int v), .val (.int (-1 : Int32))] [(.int v), (.int (x0 &&& (255 : Int32)))])) tT
        refine XS.icmpNo X0.here hx rfl (Jvm.hb hby own_d3_14) rfl (teq (hm2 : (x0 &&& (255 : Int32)) = v)).2 ?_
        show Steps pP.tables eE below (s₁.setTop (mkF mM 17 #[.val (.ref a), .val (.int n), .val (.int v), .val (.int (-1 : Int32))] [])) tT
        refine XS.iconst X0.here hx rfl (Jvm.hb hby own_d3_17) ?_
        show Steps pP.tables eE below (s₁.setTop (mkF mM 18 #[.val (.ref a), .val (.int n), .val (.int v), .val (.int (-1 : Int32))] [(.int (0 : Int32))])) tT
        refine XS.istoreN X0.here hx rfl (Jvm.hb hby own_d3_18) rfl (l' := #[.val (.ref a), .val (.int n), .val (.int v), .val (.int (0 : Int32))]) rfl ?_
        show Steps pP.tables eE below (s₁.setTop (mkF mM 19 #[.val (.ref a), .val (.int n), .val (.int v), .val (.int (0 : Int32))] [])) tT
        exact kK
      · refine ⟨(-1 : Int32), by rw [if_pos hm1, if_neg hm2], fun tT kK => ?_⟩
        refine XS.ifNo X0.here hx rfl (Jvm.hb hby own_d3_3) rfl ((if0 _ _).trans (tlt (hm1 : (0 : Int32) < n)).2.2.2) ?_
        show Steps pP.tables eE below (s₁.setTop (mkF mM 6 #[.val (.ref a), .val (.int n), .val (.int v), .val (.int (-1 : Int32))] [])) tT
        refine XS.aloadN X0.here hx rfl (Jvm.hb hby own_d3_6) rfl rfl ?_
        show Steps pP.tables eE below (s₁.setTop (mkF mM 7 #[.val (.ref a), .val (.int n), .val (.int v), .val (.int (-1 : Int32))] [(.ref a)])) tT
        refine XS.iconst X0.here hx rfl (Jvm.hb hby own_d3_7) ?_
        show Steps pP.tables eE below (s₁.setTop (mkF mM 8 #[.val (.ref a), .val (.int n), .val (.int v), .val (.int (-1 : Int32))] [(.int (0 : Int32)), (.ref a)])) tT
        refine X0.baloadBytes hx (j := (0 : Int32)) (v := (.int x0)) (own_rw e0 Ar1_.1) (State.isArrayOf_alike hZ.alike Ar1_.2.1) Ar1_.2.2 hin2_ hat2_ (g := (mkF mM 8 #[.val (.ref a), .val (.int n), .val (.int v), .val (.int (-1 : Int32))] [(.int (0 : Int32)), (.ref a)])) rfl rfl (Jvm.hb hby own_d3_8) _ ?_
        show Steps pP.tables eE below (s₁.setTop (mkF mM 9 #[.val (.ref a), .val (.int n), .val (.int v), .val (.int (-1 : Int32))] [(.int x0)])) tT
        refine XS.sipush X0.here hx rfl (Jvm.hb hby own_d3_9) ?_
        show Steps pP.tables eE below (s₁.setTop (mkF mM 12 #[.val (.ref a), .val (.int n), .val (.int v), .val (.int (-1 : Int32))] [(.int (255 : Int32)), (.int x0)])) tT
        refine XS.iand X0.here hx rfl (Jvm.hb hby own_d3_12) rfl ?_
        show Steps pP.tables eE below (s₁.setTop (mkF mM 13 #[.val (.ref a), .val (.int n), .val (.int v), .val (.int (-1 : Int32))] [(.int (x0 &&& (255 : Int32)))])) tT
        refine XS.iloadN X0.here hx rfl (Jvm.hb hby own_d3_13) rfl ?_
        show Steps pP.tables eE below (s₁.setTop (mkF mM 14 #[.val (.ref a), .val (.int n), .val (.int v), .val (.int (-1 : Int32))] [(.int v), (.int (x0 &&& (255 : Int32)))])) tT
        refine XS.icmpYes X0.here hx rfl (pc0 := 14) (pc' := 19) rfl (Jvm.hb hby own_d3_14) rfl (feq (hm2 : ¬ ((x0 &&& (255 : Int32)) = v))).2 (by decide) (by decide) ?_
        show Steps pP.tables eE below (s₁.setTop (mkF mM 19 #[.val (.ref a), .val (.int n), .val (.int v), .val (.int (-1 : Int32))] [])) tT
        exact kK
    · refine ⟨(-1 : Int32), by rw [if_neg hm1], fun tT kK => ?_⟩
      refine XS.ifYes X0.here hx rfl (pc0 := 3) (pc' := 19) rfl (Jvm.hb hby own_d3_3) rfl ((if0 _ _).trans (flt (hm1 : ¬ ((0 : Int32) < n))).2.2.2) (by decide) (by decide) ?_
      show Steps pP.tables eE below (s₁.setTop (mkF mM 19 #[.val (.ref a), .val (.int n), .val (.int v), .val (.int (-1 : Int32))] [])) tT
      exact kK
  refine own_fin st10_ ?_
  show own_Fin pP eE below _ (s₁.setTop (mkF mM 19 #[.val (.ref a), .val (.int n), .val (.int v), .val (.int r1)] []))
  refine own_fin (b := s₁.setTop (mkF mM 21 #[.val (.ref a), .val (.int n), .val (.int v), .val (.int r1)] [(.int (1 : Int32)), (.int n)])) (fun tT kK => ?_) ?_
  · show Steps pP.tables eE below (s₁.setTop (mkF mM 19 #[.val (.ref a), .val (.int n), .val (.int v), .val (.int r1)] [])) tT
    refine XS.iloadN X0.here hx rfl (Jvm.hb hby own_d3_19) rfl ?_
    show Steps pP.tables eE below (s₁.setTop (mkF mM 20 #[.val (.ref a), .val (.int n), .val (.int v), .val (.int r1)] [(.int n)])) tT
    refine XS.iconst X0.here hx rfl (Jvm.hb hby own_d3_20) ?_
    show Steps pP.tables eE below (s₁.setTop (mkF mM 21 #[.val (.ref a), .val (.int n), .val (.int v), .val (.int r1)] [(.int (1 : Int32)), (.int n)])) tT
    exact kK
  obtain ⟨r2, hr2, st11_⟩ : ∃ r2 : Int32, (r2 = (if (1 : Int32) < n then (if (x1 &&& (255 : Int32)) = v then (1 : Int32) else r1) else r1)) ∧ ∀ tT, Steps pP.tables eE below (s₁.setTop (mkF mM 37 #[.val (.ref a), .val (.int n), .val (.int v), .val (.int r2)] [])) tT → Steps pP.tables eE below (s₁.setTop (mkF mM 21 #[.val (.ref a), .val (.int n), .val (.int v), .val (.int r1)] [(.int (1 : Int32)), (.int n)])) tT := by
    by_cases hm1 : (1 : Int32) < n
    · by_cases hm2 : (x1 &&& (255 : Int32)) = v
      · refine ⟨(1 : Int32), by rw [if_pos hm1, if_pos hm2], fun tT kK => ?_⟩
        refine XS.icmpNo X0.here hx rfl (Jvm.hb hby own_d3_21) rfl (tlt (hm1 : (1 : Int32) < n)).2.2.2 ?_
        show Steps pP.tables eE below (s₁.setTop (mkF mM 24 #[.val (.ref a), .val (.int n), .val (.int v), .val (.int r1)] [])) tT
        refine XS.aloadN X0.here hx rfl (Jvm.hb hby own_d3_24) rfl rfl ?_
        show Steps pP.tables eE below (s₁.setTop (mkF mM 25 #[.val (.ref a), .val (.int n), .val (.int v), .val (.int r1)] [(.ref a)])) tT
        refine XS.iconst X0.here hx rfl (Jvm.hb hby own_d3_25) ?_
        show Steps pP.tables eE below (s₁.setTop (mkF mM 26 #[.val (.ref a), .val (.int n), .val (.int v), .val (.int r1)] [(.int (1 : Int32)), (.ref a)])) tT
        refine X0.baloadBytes hx (j := (1 : Int32)) (v := (.int x1)) (own_rw e0 Ar1_.1) (State.isArrayOf_alike hZ.alike Ar1_.2.1) Ar1_.2.2 hin3_ hat3_ (g := (mkF mM 26 #[.val (.ref a), .val (.int n), .val (.int v), .val (.int r1)] [(.int (1 : Int32)), (.ref a)])) rfl rfl (Jvm.hb hby own_d3_26) _ ?_
        show Steps pP.tables eE below (s₁.setTop (mkF mM 27 #[.val (.ref a), .val (.int n), .val (.int v), .val (.int r1)] [(.int x1)])) tT
        refine XS.sipush X0.here hx rfl (Jvm.hb hby own_d3_27) ?_
        show Steps pP.tables eE below (s₁.setTop (mkF mM 30 #[.val (.ref a), .val (.int n), .val (.int v), .val (.int r1)] [(.int (255 : Int32)), (.int x1)])) tT
        refine XS.iand X0.here hx rfl (Jvm.hb hby own_d3_30) rfl ?_
        show Steps pP.tables eE below (s₁.setTop (mkF mM 31 #[.val (.ref a), .val (.int n), .val (.int v), .val (.int r1)] [(.int (x1 &&& (255 : Int32)))])) tT
        refine XS.iloadN X0.here hx rfl (Jvm.hb hby own_d3_31) rfl ?_
        show Steps pP.tables eE below (s₁.setTop (mkF mM 32 #[.val (.ref a), .val (.int n), .val (.int v), .val (.int r1)] [(.int v), (.int (x1 &&& (255 : Int32)))])) tT
        refine XS.icmpNo X0.here hx rfl (Jvm.hb hby own_d3_32) rfl (teq (hm2 : (x1 &&& (255 : Int32)) = v)).2 ?_
        show Steps pP.tables eE below (s₁.setTop (mkF mM 35 #[.val (.ref a), .val (.int n), .val (.int v), .val (.int r1)] [])) tT
        refine XS.iconst X0.here hx rfl (Jvm.hb hby own_d3_35) ?_
        show Steps pP.tables eE below (s₁.setTop (mkF mM 36 #[.val (.ref a), .val (.int n), .val (.int v), .val (.int r1)] [(.int (1 : Int32))])) tT
        refine XS.istoreN X0.here hx rfl (Jvm.hb hby own_d3_36) rfl (l' := #[.val (.ref a), .val (.int n), .val (.int v), .val (.int (1 : Int32))]) rfl ?_
        show Steps pP.tables eE below (s₁.setTop (mkF mM 37 #[.val (.ref a), .val (.int n), .val (.int v), .val (.int (1 : Int32))] [])) tT
        exact kK
      · refine ⟨r1, by rw [if_pos hm1, if_neg hm2], fun tT kK => ?_⟩
        refine XS.icmpNo X0.here hx rfl (Jvm.hb hby own_d3_21) rfl (tlt (hm1 : (1 : Int32) < n)).2.2.2 ?_
        show Steps pP.tables eE below (s₁.setTop (mkF mM 24 #[.val (.ref a), .val (.int n), .val (.int v), .val (.int r1)] [])) tT
        refine XS.aloadN X0.here hx rfl (Jvm.hb hby own_d3_24) rfl rfl ?_
        show Steps pP.tables eE below (s₁.setTop (mkF mM 25 #[.val (.ref a), .val (.int n), .val (.int v), .val (.int r1)] [(.ref a)])) tT
        refine XS.iconst X0.here hx rfl (Jvm.hb hby own_d3_25) ?_
        show Steps pP.tables eE below (s₁.setTop (mkF mM 26 #[.val (.ref a), .val (.int n), .val (.int v), .val (.int r1)] [(.int (1 : Int32)), (.ref a)])) tT
        refine X0.baloadBytes hx (j := (1 : Int32)) (v := (.int x1)) (own_rw e0 Ar1_.1) (State.isArrayOf_alike hZ.alike Ar1_.2.1) Ar1_.2.2 hin3_ hat3_ (g := (mkF mM 26 #[.val (.ref a), .val (.int n), .val (.int v), .val (.int r1)] [(.int (1 : Int32)), (.ref a)])) rfl rfl (Jvm.hb hby own_d3_26) _ ?_
        show Steps pP.tables eE below (s₁.setTop (mkF mM 27 #[.val (.ref a), .val (.int n), .val (.int v), .val (.int r1)] [(.int x1)])) tT
        refine XS.sipush X0.here hx rfl (Jvm.hb hby own_d3_27) ?_
        show Steps pP.tables eE below (s₁.setTop (mkF mM 30 #[.val (.ref a), .val (.int n), .val (.int v), .val (.int r1)] [(.int (255 : Int32)), (.int x1)])) tT
        refine XS.iand X0.here hx rfl (Jvm.hb hby own_d3_30) rfl ?_
        show Steps pP.tables eE below (s₁.setTop (mkF mM 31 #[.val (.ref a), .val (.int n), .val (.int v), .val (.int r1)] [(.int (x1 &&& (255 : Int32)))])) tT
        refine XS.iloadN X0.here hx rfl (Jvm.hb hby own_d3_31) rfl ?_
        show Steps pP.tables eE below (s₁.setTop (mkF mM 32 #[.val (.ref a), .val (.int n), .val (.int v), .val (.int r1)] [(.int v), (.int (x1 &&& (255 : Int32)))])) tT
        refine XS.icmpYes X0.here hx rfl (pc0 := 32) (pc' := 37) rfl (Jvm.hb hby own_d3_32) rfl (feq (hm2 : ¬ ((x1 &&& (255 : Int32)) = v))).2 (by decide) (by decide) ?_
        show Steps pP.tables eE below (s₁.setTop (mkF mM 37 #[.val (.ref a), .val (.int n), .val (.int v), .val (.int r1)] [])) tT
        exact kK
    · refine ⟨r1, by rw [if_neg hm1], fun tT kK => ?_⟩
      refine XS.icmpYes X0.here hx rfl (pc0 := 21) (pc' := 37) rfl (Jvm.hb hby own_d3_21) rfl (flt (hm1 : ¬ ((1 : Int32) < n))).2.2.2 (by decide) (by decide) ?_
      show Steps pP.tables eE below (s₁.setTop (mkF mM 37 #[.val (.ref a), .val (.int n), .val (.int v), .val (.int r1)] [])) tT
      exact kK
  refine own_fin st11_ ?_
  show own_Fin pP eE below _ (s₁.setTop (mkF mM 37 #[.val (.ref a), .val (.int n), .val (.int v), .val (.int r2)] []))
  refine own_fin (b := s₁.setTop (mkF mM 39 #[.val (.ref a), .val (.int n), .val (.int v), .val (.int r2)] [(.int (2 : Int32)), (.int n)])) (fun tT kK => ?_) ?_
  · show Steps pP.tables eE below (s₁.setTop (mkF mM 37 #[.val (.ref a), .val (.int n), .val (.int v), .val (.int r2)] [])) tT
    refine XS.iloadN X0.here hx rfl (Jvm.hb hby own_d3_37) rfl ?_
    show Steps pP.tables eE below (s₁.setTop (mkF mM 38 #[.val (.ref a), .val (.int n), .val (.int v), .val (.int r2)] [(.int n)])) tT
    refine XS.iconst X0.here hx rfl (Jvm.hb hby own_d3_38) ?_
    show Steps pP.tables eE below (s₁.setTop (mkF mM 39 #[.val (.ref a), .val (.int n), .val (.int v), .val (.int r2)] [(.int (2 : Int32)), (.int n)])) tT
    exact kK
  obtain ⟨r3, hr3, st12_⟩ : ∃ r3 : Int32, (r3 = (if (2 : Int32) < n then (if (x2 &&& (255 : Int32)) = v then (2 : Int32) else r2) else r2)) ∧ ∀ tT, Steps pP.tables eE below (s₁.setTop (mkF mM 55 #[.val (.ref a), .val (.int n), .val (.int v), .val (.int r3)] [])) tT → Steps pP.tables eE below (s₁.setTop (mkF mM 39 #[.val (.ref a), .val (.int n), .val (.int v), .val (.int r2)] [(.int (2 : Int32)), (.int n)])) tT := by
    by_cases hm1 : (2 : Int32) < n
    · by_cases hm2 : (x2 &&& (255 : Int32)) = v
      · refine ⟨(2 : Int32), by rw [if_pos hm1, if_pos hm2], fun tT kK => ?_⟩
        refine XS.icmpNo X0.here hx rfl (Jvm.hb hby own_d3_39) rfl (tlt (hm1 : (2 : Int32) < n)).2.2.2 ?_
        show Steps pP.tables eE below (s₁.setTop (mkF mM 42 #[.val (.ref a), .val (.int n), .val (.int v), .val (.int r2)] [])) tT
        refine XS.aloadN X0.here hx rfl (Jvm.hb hby own_d3_42) rfl rfl ?_
        show Steps pP.tables eE below (s₁.setTop (mkF mM 43 #[.val (.ref a), .val (.int n), .val (.int v), .val (.int r2)] [(.ref a)])) tT
        refine XS.iconst X0.here hx rfl (Jvm.hb hby own_d3_43) ?_
        show Steps pP.tables eE below (s₁.setTop (mkF mM 44 #[.val (.ref a), .val (.int n), .val (.int v), .val (.int r2)] [(.int (2 : Int32)), (.ref a)])) tT
        refine X0.baloadBytes hx (j := (2 : Int32)) (v := (.int x2)) (own_rw e0 Ar1_.1) (State.isArrayOf_alike hZ.alike Ar1_.2.1) Ar1_.2.2 hin4_ hat4_ (g := (mkF mM 44 #[.val (.ref a), .val (.int n), .val (.int v), .val (.int r2)] [(.int (2 : Int32)), (.ref a)])) rfl rfl (Jvm.hb hby own_d3_44) _ ?_
        show Steps pP.tables eE below (s₁.setTop (mkF mM 45 #[.val (.ref a), .val (.int n), .val (.int v), .val (.int r2)] [(.int x2)])) tT
        refine XS.sipush X0.here hx rfl (Jvm.hb hby own_d3_45) ?_
        show Steps pP.tables eE below (s₁.setTop (mkF mM 48 #[.val (.ref a), .val (.int n), .val (.int v), .val (.int r2)] [(.int (255 : Int32)), (.int x2)])) tT
        refine XS.iand X0.here hx rfl (Jvm.hb hby own_d3_48) rfl ?_
        show Steps pP.tables eE below (s₁.setTop (mkF mM 49 #[.val (.ref a), .val (.int n), .val (.int v), .val (.int r2)] [(.int (x2 &&& (255 : Int32)))])) tT
        refine XS.iloadN X0.here hx rfl (Jvm.hb hby own_d3_49) rfl ?_
        show Steps pP.tables eE below (s₁.setTop (mkF mM 50 #[.val (.ref a), .val (.int n), .val (.int v), .val (.int r2)] [(.int v), (.int (x2 &&& (255 : Int32)))])) tT
        refine XS.icmpNo X0.here hx rfl (Jvm.hb hby own_d3_50) rfl (teq (hm2 : (x2 &&& (255 : Int32)) = v)).2 ?_
        show Steps pP.tables eE below (s₁.setTop (mkF mM 53 #[.val (.ref a), .val (.int n), .val (.int v), .val (.int r2)] [])) tT
        refine XS.iconst X0.here hx rfl (Jvm.hb hby own_d3_53) ?_
        show Steps pP.tables eE below (s₁.setTop (mkF mM 54 #[.val (.ref a), .val (.int n), .val (.int v), .val (.int r2)] [(.int (2 : Int32))])) tT
        refine XS.istoreN X0.here hx rfl (Jvm.hb hby own_d3_54) rfl (l' := #[.val (.ref a), .val (.int n), .val (.int v), .val (.int (2 : Int32))]) rfl ?_
        show Steps pP.tables eE below (s₁.setTop (mkF mM 55 #[.val (.ref a), .val (.int n), .val (.int v), .val (.int (2 : Int32))] [])) tT
        exact kK
      · refine ⟨r2, by rw [if_pos hm1, if_neg hm2], fun tT kK => ?_⟩
        refine XS.icmpNo X0.here hx rfl (Jvm.hb hby own_d3_39) rfl (tlt (hm1 : (2 : Int32) < n)).2.2.2 ?_
        show Steps pP.tables eE below (s₁.setTop (mkF mM 42 #[.val (.ref a), .val (.int n), .val (.int v), .val (.int r2)] [])) tT
        refine XS.aloadN X0.here hx rfl (Jvm.hb hby own_d3_42) rfl rfl ?_
        show Steps pP.tables eE below (s₁.setTop (mkF mM 43 #[.val (.ref a), .val (.int n), .val (.int v), .val (.int r2)] [(.ref a)])) tT
        refine XS.iconst X0.here hx rfl (Jvm.hb hby own_d3_43) ?_
        show Steps pP.tables eE below (s₁.setTop (mkF mM 44 #[.val (.ref a), .val (.int n), .val (.int v), .val (.int r2)] [(.int (2 : Int32)), (.ref a)])) tT
        refine X0.baloadBytes hx (j := (2 : Int32)) (v := (.int x2)) (own_rw e0 Ar1_.1) (State.isArrayOf_alike hZ.alike Ar1_.2.1) Ar1_.2.2 hin4_ hat4_ (g := (mkF mM 44 #[.val (.ref a), .val (.int n), .val (.int v), .val (.int r2)] [(.int (2 : Int32)), (.ref a)])) rfl rfl (Jvm.hb hby own_d3_44) _ ?_
        show Steps pP.tables eE below (s₁.setTop (mkF mM 45 #[.val (.ref a), .val (.int n), .val (.int v), .val (.int r2)] [(.int x2)])) tT
        refine XS.sipush X0.here hx rfl (Jvm.hb hby own_d3_45) ?_
        show Steps pP.tables eE below (s₁.setTop (mkF mM 48 #[.val (.ref a), .val (.int n), .val (.int v), .val (.int r2)] [(.int (255 : Int32)), (.int x2)])) tT
        refine XS.iand X0.here hx rfl (Jvm.hb hby own_d3_48) rfl ?_
        show Steps pP.tables eE below (s₁.setTop (mkF mM 49 #[.val (.ref a), .val (.int n), .val (.int v), .val (.int r2)] [(.int (x2 &&& (255 : Int32)))])) tT
        refine XS.iloadN X0.here hx rfl (Jvm.hb hby own_d3_49) rfl ?_
        show Steps pP.tables eE below (s₁.setTop (mkF mM 50 #[.val (.ref a), .val (.int n), .val (.int v), .val (.int r2)] [(.int v), (.int (x2 &&& (255 : Int32)))])) tT
        refine XS.icmpYes X0.here hx rfl (pc0 := 50) (pc' := 55) rfl (Jvm.hb hby own_d3_50) rfl (feq (hm2 : ¬ ((x2 &&& (255 : Int32)) = v))).2 (by decide) (by decide) ?_
        show Steps pP.tables eE below (s₁.setTop (mkF mM 55 #[.val (.ref a), .val (.int n), .val (.int v), .val (.int r2)] [])) tT
        exact kK
    · refine ⟨r2, by rw [if_neg hm1], fun tT kK => ?_⟩
      refine XS.icmpYes X0.here hx rfl (pc0 := 39) (pc' := 55) rfl (Jvm.hb hby own_d3_39) rfl (flt (hm1 : ¬ ((2 : Int32) < n))).2.2.2 (by decide) (by decide) ?_
      show Steps pP.tables eE below (s₁.setTop (mkF mM 55 #[.val (.ref a), .val (.int n), .val (.int v), .val (.int r2)] [])) tT
      exact kK
  refine own_fin st12_ ?_
  show own_Fin pP eE below _ (s₁.setTop (mkF mM 55 #[.val (.ref a), .val (.int n), .val (.int v), .val (.int r3)] []))
  refine own_fin (b := s₁.setTop (mkF mM 57 #[.val (.ref a), .val (.int n), .val (.int v), .val (.int r3)] [(.int (3 : Int32)), (.int n)])) (fun tT kK => ?_) ?_
  · show Steps pP.tables eE below (s₁.setTop (mkF mM 55 #[.val (.ref a), .val (.int n), .val (.int v), .val (.int r3)] [])) tT
    refine XS.iloadN X0.here hx rfl (Jvm.hb hby own_d3_55) rfl ?_
    show Steps pP.tables eE below (s₁.setTop (mkF mM 56 #[.val (.ref a), .val (.int n), .val (.int v), .val (.int r3)] [(.int n)])) tT
    refine XS.iconst X0.here hx rfl (Jvm.hb hby own_d3_56) ?_
    show Steps pP.tables eE below (s₁.setTop (mkF mM 57 #[.val (.ref a), .val (.int n), .val (.int v), .val (.int r3)] [(.int (3 : Int32)), (.int n)])) tT
    exact kK
  obtain ⟨r4, hr4, st13_⟩ : ∃ r4 : Int32, (r4 = (if (3 : Int32) < n then (if (x3 &&& (255 : Int32)) = v then (3 : Int32) else r3) else r3)) ∧ ∀ tT, Steps pP.tables eE below (s₁.setTop (mkF mM 73 #[.val (.ref a), .val (.int n), .val (.int v), .val (.int r4)] [])) tT → Steps pP.tables eE below (s₁.setTop (mkF mM 57 #[.val (.ref a), .val (.int n), .val (.int v), .val (.int r3)] [(.int (3 : Int32)), (.int n)])) tT := by
    by_cases hm1 : (3 : Int32) < n
    · by_cases hm2 : (x3 &&& (255 : Int32)) = v
      · refine ⟨(3 : Int32), by rw [if_pos hm1, if_pos hm2], fun tT kK => ?_⟩
        refine XS.icmpNo X0.here hx rfl (Jvm.hb hby own_d3_57) rfl (tlt (hm1 : (3 : Int32) < n)).2.2.2 ?_
        show Steps pP.tables eE below (s₁.setTop (mkF mM 60 #[.val (.ref a), .val (.int n), .val (.int v), .val (.int r3)] [])) tT
        refine XS.aloadN X0.here hx rfl (Jvm.hb hby own_d3_60) rfl rfl ?_
        show Steps pP.tables eE below (s₁.setTop (mkF mM 61 #[.val (.ref a), .val (.int n), .val (.int v), .val (.int r3)] [(.ref a)])) tT
        refine XS.iconst X0.here hx rfl (Jvm.hb hby own_d3_61) ?_
        show Steps pP.tables eE below (s₁.setTop (mkF mM 62 #[.val (.ref a), .val (.int n), .val (.int v), .val (.int r3)] [(.int (3 : Int32)), (.ref a)])) tT
        refine X0.baloadBytes hx (j := (3 : Int32)) (v := (.int x3)) (own_rw e0 Ar1_.1) (State.isArrayOf_alike hZ.alike Ar1_.2.1) Ar1_.2.2 hin5_ hat5_ (g := (mkF mM 62 #[.val (.ref a), .val (.int n), .val (.int v), .val (.int r3)] [(.int (3 : Int32)), (.ref a)])) rfl rfl (Jvm.hb hby own_d3_62) _ ?_
        show Steps pP.tables eE below (s₁.setTop (mkF mM 63 #[.val (.ref a), .val (.int n), .val (.int v), .val (.int r3)] [(.int x3)])) tT
        refine XS.sipush X0.here hx rfl (Jvm.hb hby own_d3_63) ?_
        show Steps pP.tables eE below (s₁.setTop (mkF mM 66 #[.val (.ref a), .val (.int n), .val (.int v), .val (.int r3)] [(.int (255 : Int32)), (.int x3)])) tT
        refine XS.iand X0.here hx rfl (Jvm.hb hby own_d3_66) rfl ?_
        show Steps pP.tables eE below (s₁.setTop (mkF mM 67 #[.val (.ref a), .val (.int n), .val (.int v), .val (.int r3)] [(.int (x3 &&& (255 : Int32)))])) tT
        refine XS.iloadN X0.here hx rfl (Jvm.hb hby own_d3_67) rfl ?_
        show Steps pP.tables eE below (s₁.setTop (mkF mM 68 #[.val (.ref a), .val (.int n), .val (.int v), .val (.int r3)] [(.int v), (.int (x3 &&& (255 : Int32)))])) tT
        refine XS.icmpNo X0.here hx rfl (Jvm.hb hby own_d3_68) rfl (teq (hm2 : (x3 &&& (255 : Int32)) = v)).2 ?_
        show Steps pP.tables eE below (s₁.setTop (mkF mM 71 #[.val (.ref a), .val (.int n), .val (.int v), .val (.int r3)] [])) tT
        refine XS.iconst X0.here hx rfl (Jvm.hb hby own_d3_71) ?_
        show Steps pP.tables eE below (s₁.setTop (mkF mM 72 #[.val (.ref a), .val (.int n), .val (.int v), .val (.int r3)] [(.int (3 : Int32))])) tT
        refine XS.istoreN X0.here hx rfl (Jvm.hb hby own_d3_72) rfl (l' := #[.val (.ref a), .val (.int n), .val (.int v), .val (.int (3 : Int32))]) rfl ?_
        show Steps pP.tables eE below (s₁.setTop (mkF mM 73 #[.val (.ref a), .val (.int n), .val (.int v), .val (.int (3 : Int32))] [])) tT
        exact kK
      · refine ⟨r3, by rw [if_pos hm1, if_neg hm2], fun tT kK => ?_⟩
        refine XS.icmpNo X0.here hx rfl (Jvm.hb hby own_d3_57) rfl (tlt (hm1 : (3 : Int32) < n)).2.2.2 ?_
        show Steps pP.tables eE below (s₁.setTop (mkF mM 60 #[.val (.ref a), .val (.int n), .val (.int v), .val (.int r3)] [])) tT
        refine XS.aloadN X0.here hx rfl (Jvm.hb hby own_d3_60) rfl rfl ?_
        show Steps pP.tables eE below (s₁.setTop (mkF mM 61 #[.val (.ref a), .val (.int n), .val (.int v), .val (.int r3)] [(.ref a)])) tT
        refine XS.iconst X0.here hx rfl (Jvm.hb hby own_d3_61) ?_
        show Steps pP.tables eE below (s₁.setTop (mkF mM 62 #[.val (.ref a), .val (.int n), .val (.int v), .val (.int r3)] [(.int (3 : Int32)), (.ref a)])) tT
        refine X0.baloadBytes hx (j := (3 : Int32)) (v := (.int x3)) (own_rw e0 Ar1_.1) (State.isArrayOf_alike hZ.alike Ar1_.2.1) Ar1_.2.2 hin5_ hat5_ (g := (mkF mM 62 #[.val (.ref a), .val (.int n), .val (.int v), .val (.int r3)] [(.int (3 : Int32)), (.ref a)])) rfl rfl (Jvm.hb hby own_d3_62) _ ?_
        show Steps pP.tables eE below (s₁.setTop (mkF mM 63 #[.val (.ref a), .val (.int n), .val (.int v), .val (.int r3)] [(.int x3)])) tT
        refine XS.sipush X0.here hx rfl (Jvm.hb hby own_d3_63) ?_
        show Steps pP.tables eE below (s₁.setTop (mkF mM 66 #[.val (.ref a), .val (.int n), .val (.int v), .val (.int r3)] [(.int (255 : Int32)), (.int x3)])) tT
        refine XS.iand X0.here hx rfl (Jvm.hb hby own_d3_66) rfl ?_
        show Steps pP.tables eE below (s₁.setTop (mkF mM 67 #[.val (.ref a), .val (.int n), .val (.int v), .val (.int r3)] [(.int (x3 &&& (255 : Int32)))])) tT
        refine XS.iloadN X0.here hx rfl (Jvm.hb hby own_d3_67) rfl ?_
        show Steps pP.tables eE below (s₁.setTop (mkF mM 68 #[.val (.ref a), .val (.int n), .val (.int v), .val (.int r3)] [(.int v), (.int (x3 &&& (255 : Int32)))])) tT
        refine XS.icmpYes X0.here hx rfl (pc0 := 68) (pc' := 73) rfl (Jvm.hb hby own_d3_68) rfl (feq (hm2 : ¬ ((x3 &&& (255 : Int32)) = v))).2 (by decide) (by decide) ?_
        show Steps pP.tables eE below (s₁.setTop (mkF mM 73 #[.val (.ref a), .val (.int n), .val (.int v), .val (.int r3)] [])) tT
        exact kK
    · refine ⟨r3, by rw [if_neg hm1], fun tT kK => ?_⟩
      refine XS.icmpYes X0.here hx rfl (pc0 := 57) (pc' := 73) rfl (Jvm.hb hby own_d3_57) rfl (flt (hm1 : ¬ ((3 : Int32) < n))).2.2.2 (by decide) (by decide) ?_
      show Steps pP.tables eE below (s₁.setTop (mkF mM 73 #[.val (.ref a), .val (.int n), .val (.int v), .val (.int r3)] [])) tT
      exact kK
  refine own_fin st13_ ?_
  show own_Fin pP eE below _ (s₁.setTop (mkF mM 73 #[.val (.ref a), .val (.int n), .val (.int v), .val (.int r4)] []))
  refine own_fin (b := s₁.setTop (mkF mM 75 #[.val (.ref a), .val (.int n), .val (.int v), .val (.int r4)] [(.int (4 : Int32)), (.int n)])) (fun tT kK => ?_) ?_
  · show Steps pP.tables eE below (s₁.setTop (mkF mM 73 #[.val (.ref a), .val (.int n), .val (.int v), .val (.int r4)] [])) tT
    refine XS.iloadN X0.here hx rfl (Jvm.hb hby own_d3_73) rfl ?_
    show Steps pP.tables eE below (s₁.setTop (mkF mM 74 #[.val (.ref a), .val (.int n), .val (.int v), .val (.int r4)] [(.int n)])) tT
    refine XS.iconst X0.here hx rfl (Jvm.hb hby own_d3_74) ?_
    show Steps pP.tables eE below (s₁.setTop (mkF mM 75 #[.val (.ref a), .val (.int n), .val (.int v), .val (.int r4)] [(.int (4 : Int32)), (.int n)])) tT
    exact kK
  obtain ⟨r5, hr5, st14_⟩ : ∃ r5 : Int32, (r5 = (if (4 : Int32) < n then (if (x4 &&& (255 : Int32)) = v then (4 : Int32) else r4) else r4)) ∧ ∀ tT, Steps pP.tables eE below (s₁.setTop (mkF mM 91 #[.val (.ref a), .val (.int n), .val (.int v), .val (.int r5)] [])) tT → Steps pP.tables eE below (s₁.setTop (mkF mM 75 #[.val (.ref a), .val (.int n), .val (.int v), .val (.int r4)] [(.int (4 : Int32)), (.int n)])) tT := by
    by_cases hm1 : (4 : Int32) < n
    · by_cases hm2 : (x4 &&& (255 : Int32)) = v
      · refine ⟨(4 : Int32), by rw [if_pos hm1, if_pos hm2], fun tT kK => ?_⟩
        refine XS.icmpNo X0.here hx rfl (Jvm.hb hby own_d3_75) rfl (tlt (hm1 : (4 : Int32) < n)).2.2.2 ?_
        show Steps pP.tables eE below (s₁.setTop (mkF mM 78 #[.val (.ref a), .val (.int n), .val (.int v), .val (.int r4)] [])) tT
        refine XS.aloadN X0.here hx rfl (Jvm.hb hby own_d3_78) rfl rfl ?_
        show Steps pP.tables eE below (s₁.setTop (mkF mM 79 #[.val (.ref a), .val (.int n), .val (.int v), .val (.int r4)] [(.ref a)])) tT
        refine XS.iconst X0.here hx rfl (Jvm.hb hby own_d3_79) ?_
        show Steps pP.tables eE below (s₁.setTop (mkF mM 80 #[.val (.ref a), .val (.int n), .val (.int v), .val (.int r4)] [(.int (4 : Int32)), (.ref a)])) tT
        refine X0.baloadBytes hx (j := (4 : Int32)) (v := (.int x4)) (own_rw e0 Ar1_.1) (State.isArrayOf_alike hZ.alike Ar1_.2.1) Ar1_.2.2 hin6_ hat6_ (g := (mkF mM 80 #[.val (.ref a), .val (.int n), .val (.int v), .val (.int r4)] [(.int (4 : Int32)), (.ref a)])) rfl rfl (Jvm.hb hby own_d3_80) _ ?_
        show Steps pP.tables eE below (s₁.setTop (mkF mM 81 #[.val (.ref a), .val (.int n), .val (.int v), .val (.int r4)] [(.int x4)])) tT
        refine XS.sipush X0.here hx rfl (Jvm.hb hby own_d3_81) ?_
        show Steps pP.tables eE below (s₁.setTop (mkF mM 84 #[.val (.ref a), .val (.int n), .val (.int v), .val (.int r4)] [(.int (255 : Int32)), (.int x4)])) tT
        refine XS.iand X0.here hx rfl (Jvm.hb hby own_d3_84) rfl ?_
        show Steps pP.tables eE below (s₁.setTop (mkF mM 85 #[.val (.ref a), .val (.int n), .val (.int v), .val (.int r4)] [(.int (x4 &&& (255 : Int32)))])) tT
        refine XS.iloadN X0.here hx rfl (Jvm.hb hby own_d3_85) rfl ?_
        show Steps pP.tables eE below (s₁.setTop (mkF mM 86 #[.val (.ref a), .val (.int n), .val (.int v), .val (.int r4)] [(.int v), (.int (x4 &&& (255 : Int32)))])) tT
        refine XS.icmpNo X0.here hx rfl (Jvm.hb hby own_d3_86) rfl (teq (hm2 : (x4 &&& (255 : Int32)) = v)).2 ?_
        show Steps pP.tables eE below (s₁.setTop (mkF mM 89 #[.val (.ref a), .val (.int n), .val (.int v), .val (.int r4)] [])) tT
        refine XS.iconst X0.here hx rfl (Jvm.hb hby own_d3_89) ?_
        show Steps pP.tables eE below (s₁.setTop (mkF mM 90 #[.val (.ref a), .val (.int n), .val (.int v), .val (.int r4)] [(.int (4 : Int32))])) tT
        refine XS.istoreN X0.here hx rfl (Jvm.hb hby own_d3_90) rfl (l' := #[.val (.ref a), .val (.int n), .val (.int v), .val (.int (4 : Int32))]) rfl ?_
        show Steps pP.tables eE below (s₁.setTop (mkF mM 91 #[.val (.ref a), .val (.int n), .val (.int v), .val (.int (4 : Int32))] [])) tT
        exact kK
      · refine ⟨r4, by rw [if_pos hm1, if_neg hm2], fun tT kK => ?_⟩
        refine XS.icmpNo X0.here hx rfl (Jvm.hb hby own_d3_75) rfl (tlt (hm1 : (4 : Int32) < n)).2.2.2 ?_
        show Steps pP.tables eE below (s₁.setTop (mkF mM 78 #[.val (.ref a), .val (.int n), .val (.int v), .val (.int r4)] [])) tT
        refine XS.aloadN X0.here hx rfl (Jvm.hb hby own_d3_78) rfl rfl ?_
        show Steps pP.tables eE below (s₁.setTop (mkF mM 79 #[.val (.ref a), .val (.int n), .val (.int v), .val (.int r4)] [(.ref a)])) tT
        refine XS.iconst X0.here hx rfl (Jvm.hb hby own_d3_79) ?_
        show Steps pP.tables eE below (s₁.setTop (mkF mM 80 #[.val (.ref a), .val (.int n), .val (.int v), .val (.int r4)] [(.int (4 : Int32)), (.ref a)])) tT
        refine X0.baloadBytes hx (j := (4 : Int32)) (v := (.int x4)) (own_rw e0 Ar1_.1) (State.isArrayOf_alike hZ.alike Ar1_.2.1) Ar1_.2.2 hin6_ hat6_ (g := (mkF mM 80 #[.val (.ref a), .val (.int n), .val (.int v), .val (.int r4)] [(.int (4 : Int32)), (.ref a)])) rfl rfl (Jvm.hb hby own_d3_80) _ ?_
        show Steps pP.tables eE below (s₁.setTop (mkF mM 81 #[.val (.ref a), .val (.int n), .val (.int v), .val (.int r4)] [(.int x4)])) tT
        refine XS.sipush X0.here hx rfl (Jvm.hb hby own_d3_81) ?_
        show Steps pP.tables eE below (s₁.setTop (mkF mM 84 #[.val (.ref a), .val (.int n), .val (.int v), .val (.int r4)] [(.int (255 : Int32)), (.int x4)])) tT
        refine XS.iand X0.here hx rfl (Jvm.hb hby own_d3_84) rfl ?_
        show Steps pP.tables eE below (s₁.setTop (mkF mM 85 #[.val (.ref a), .val (.int n), .val (.int v), .val (.int r4)] [(.int (x4 &&& (255 : Int32)))])) tT
        refine XS.iloadN X0.here hx rfl (Jvm.hb hby own_d3_85) rfl ?_
        show Steps pP.tables eE below (s₁.setTop (mkF mM 86 #[.val (.ref a), .val (.int n), .val (.int v), .val (.int r4)] [(.int v), (.int (x4 &&& (255 : Int32)))])) tT
        refine XS.icmpYes X0.here hx rfl (pc0 := 86) (pc' := 91) rfl (Jvm.hb hby own_d3_86) rfl (feq (hm2 : ¬ ((x4 &&& (255 : Int32)) = v))).2 (by decide) (by decide) ?_
        show Steps pP.tables eE below (s₁.setTop (mkF mM 91 #[.val (.ref a), .val (.int n), .val (.int v), .val (.int r4)] [])) tT
        exact kK
    · refine ⟨r4, by rw [if_neg hm1], fun tT kK => ?_⟩
      refine XS.icmpYes X0.here hx rfl (pc0 := 75) (pc' := 91) rfl (Jvm.hb hby own_d3_75) rfl (flt (hm1 : ¬ ((4 : Int32) < n))).2.2.2 (by decide) (by decide) ?_
      show Steps pP.tables eE below (s₁.setTop (mkF mM 91 #[.val (.ref a), .val (.int n), .val (.int v), .val (.int r4)] [])) tT
      exact kK
  refine own_fin st14_ ?_
  show own_Fin pP eE below _ (s₁.setTop (mkF mM 91 #[.val (.ref a), .val (.int n), .val (.int v), .val (.int r5)] []))
  refine own_fin (b := s₁.setTop (mkF mM 93 #[.val (.ref a), .val (.int n), .val (.int v), .val (.int r5)] [(.int (5 : Int32)), (.int n)])) (fun tT kK => ?_) ?_
  · show Steps pP.tables eE below (s₁.setTop (mkF mM 91 #[.val (.ref a), .val (.int n), .val (.int v), .val (.int r5)] [])) tT
    refine XS.iloadN X0.here hx rfl (Jvm.hb hby own_d3_91) rfl ?_
    show Steps pP.tables eE below (s₁.setTop (mkF mM 92 #[.val (.ref a), .val (.int n), .val (.int v), .val (.int r5)] [(.int n)])) tT
    refine XS.iconst X0.here hx rfl (Jvm.hb hby own_d3_92) ?_
    show Steps pP.tables eE below (s₁.setTop (mkF mM 93 #[.val (.ref a), .val (.int n), .val (.int v), .val (.int r5)] [(.int (5 : Int32)), (.int n)])) tT
    exact kK
  obtain ⟨r6, hr6, st15_⟩ : ∃ r6 : Int32, (r6 = (if (5 : Int32) < n then (if (x5 &&& (255 : Int32)) = v then (5 : Int32) else r5) else r5)) ∧ ∀ tT, Steps pP.tables eE below (s₁.setTop (mkF mM 109 #[.val (.ref a), .val (.int n), .val (.int v), .val (.int r6)] [])) tT → Steps pP.tables eE below (s₁.setTop (mkF mM 93 #[.val (.ref a), .val (.int n), .val (.int v), .val (.int r5)] [(.int (5 : Int32)), (.int n)])) tT := by
    by_cases hm1 : (5 : Int32) < n
    · by_cases hm2 : (x5 &&& (255 : Int32)) = v
      · refine ⟨(5 : Int32), by rw [if_pos hm1, if_pos hm2], fun tT kK => ?_⟩
        refine XS.icmpNo X0.here hx rfl (Jvm.hb hby own_d3_93) rfl (tlt (hm1 : (5 : Int32) < n)).2.2.2 ?_
        show Steps pP.tables eE below (s₁.setTop (mkF mM 96 #[.val (.ref a), .val (.int n), .val (.int v), .val (.int r5)] [])) tT
        refine XS.aloadN X0.here hx rfl (Jvm.hb hby own_d3_96) rfl rfl ?_
        show Steps pP.tables eE below (s₁.setTop (mkF mM 97 #[.val (.ref a), .val (.int n), .val (.int v), .val (.int r5)] [(.ref a)])) tT
        refine XS.iconst X0.here hx rfl (Jvm.hb hby own_d3_97) ?_
        show Steps pP.tables eE below (s₁.setTop (mkF mM 98 #[.val (.ref a), .val (.int n), .val (.int v), .val (.int r5)] [(.int (5 : Int32)), (.ref a)])) tT
        refine X0.baloadBytes hx (j := (5 : Int32)) (v := (.int x5)) (own_rw e0 Ar1_.1) (State.isArrayOf_alike hZ.alike Ar1_.2.1) Ar1_.2.2 hin7_ hat7_ (g := (mkF mM 98 #[.val (.ref a), .val (.int n), .val (.int v), .val (.int r5)] [(.int (5 : Int32)), (.ref a)])) rfl rfl (Jvm.hb hby own_d3_98) _ ?_
        show Steps pP.tables eE below (s₁.setTop (mkF mM 99 #[.val (.ref a), .val (.int n), .val (.int v), .val (.int r5)] [(.int x5)])) tT
        refine XS.sipush X0.here hx rfl (Jvm.hb hby own_d3_99) ?_
        show Steps pP.tables eE below (s₁.setTop (mkF mM 102 #[.val (.ref a), .val (.int n), .val (.int v), .val (.int r5)] [(.int (255 : Int32)), (.int x5)])) tT
        refine XS.iand X0.here hx rfl (Jvm.hb hby own_d3_102) rfl ?_
        show Steps pP.tables eE below (s₁.setTop (mkF mM 103 #[.val (.ref a), .val (.int n), .val (.int v), .val (.int r5)] [(.int (x5 &&& (255 : Int32)))])) tT
        refine XS.iloadN X0.here hx rfl (Jvm.hb hby own_d3_103) rfl ?_
        show Steps pP.tables eE below (s₁.setTop (mkF mM 104 #[.val (.ref a), .val (.int n), .val (.int v), .val (.int r5)] [(.int v), (.int (x5 &&& (255 : Int32)))])) tT
        refine XS.icmpNo X0.here hx rfl (Jvm.hb hby own_d3_104) rfl (teq (hm2 : (x5 &&& (255 : Int32)) = v)).2 ?_
        show Steps pP.tables eE below (s₁.setTop (mkF mM 107 #[.val (.ref a), .val (.int n), .val (.int v), .val (.int r5)] [])) tT
        refine XS.iconst X0.here hx rfl (Jvm.hb hby own_d3_107) ?_
        show Steps pP.tables eE below (s₁.setTop (mkF mM 108 #[.val (.ref a), .val (.int n), .val (.int v), .val (.int r5)] [(.int (5 : Int32))])) tT
        refine XS.istoreN X0.here hx rfl (Jvm.hb hby own_d3_108) rfl (l' := #[.val (.ref a), .val (.int n), .val (.int v), .val (.int (5 : Int32))]) rfl ?_
        show Steps pP.tables eE below (s₁.setTop (mkF mM 109 #[.val (.ref a), .val (.int n), .val (.int v), .val (.int (5 : Int32))] [])) tT
        exact kK
      · refine ⟨r5, by rw [if_pos hm1, if_neg hm2], fun tT kK => ?_⟩
        refine XS.icmpNo X0.here hx rfl (Jvm.hb hby own_d3_93) rfl (tlt (hm1 : (5 : Int32) < n)).2.2.2 ?_
        show Steps pP.tables eE below (s₁.setTop (mkF mM 96 #[.val (.ref a), .val (.int n), .val (.int v), .val (.int r5)] [])) tT
        refine XS.aloadN X0.here hx rfl (Jvm.hb hby own_d3_96) rfl rfl ?_
        show Steps pP.tables eE below (s₁.setTop (mkF mM 97 #[.val (.ref a), .val (.int n), .val (.int v), .val (.int r5)] [(.ref a)])) tT
        refine XS.iconst X0.here hx rfl (Jvm.hb hby own_d3_97) ?_
        show Steps pP.tables eE below (s₁.setTop (mkF mM 98 #[.val (.ref a), .val (.int n), .val (.int v), .val (.int r5)] [(.int (5 : Int32)), (.ref a)])) tT
        refine X0.baloadBytes hx (j := (5 : Int32)) (v := (.int x5)) (own_rw e0 Ar1_.1) (State.isArrayOf_alike hZ.alike Ar1_.2.1) Ar1_.2.2 hin7_ hat7_ (g := (mkF mM 98 #[.val (.ref a), .val (.int n), .val (.int v), .val (.int r5)] [(.int (5 : Int32)), (.ref a)])) rfl rfl (Jvm.hb hby own_d3_98) _ ?_
        show Steps pP.tables eE below (s₁.setTop (mkF mM 99 #[.val (.ref a), .val (.int n), .val (.int v), .val (.int r5)] [(.int x5)])) tT
        refine XS.sipush X0.here hx rfl (Jvm.hb hby own_d3_99) ?_
        show Steps pP.tables eE below (s₁.setTop (mkF mM 102 #[.val (.ref a), .val (.int n), .val (.int v), .val (.int r5)] [(.int (255 : Int32)), (.int x5)])) tT
        refine XS.iand X0.here hx rfl (Jvm.hb hby own_d3_102) rfl ?_
        show Steps pP.tables eE below (s₁.setTop (mkF mM 103 #[.val (.ref a), .val (.int n), .val (.int v), .val (.int r5)] [(.int (x5 &&& (255 : Int32)))])) tT
        refine XS.iloadN X0.here hx rfl (Jvm.hb hby own_d3_103) rfl ?_
        show Steps pP.tables eE below (s₁.setTop (mkF mM 104 #[.val (.ref a), .val (.int n), .val (.int v), .val (.int r5)] [(.int v), (.int (x5 &&& (255 : Int32)))])) tT
        refine XS.icmpYes X0.here hx rfl (pc0 := 104) (pc' := 109) rfl (Jvm.hb hby own_d3_104) rfl (feq (hm2 : ¬ ((x5 &&& (255 : Int32)) = v))).2 (by decide) (by decide) ?_
        show Steps pP.tables eE below (s₁.setTop (mkF mM 109 #[.val (.ref a), .val (.int n), .val (.int v), .val (.int r5)] [])) tT
        exact kK
    · refine ⟨r5, by rw [if_neg hm1], fun tT kK => ?_⟩
      refine XS.icmpYes X0.here hx rfl (pc0 := 93) (pc' := 109) rfl (Jvm.hb hby own_d3_93) rfl (flt (hm1 : ¬ ((5 : Int32) < n))).2.2.2 (by decide) (by decide) ?_
      show Steps pP.tables eE below (s₁.setTop (mkF mM 109 #[.val (.ref a), .val (.int n), .val (.int v), .val (.int r5)] [])) tT
      exact kK
  refine own_fin st15_ ?_
  show own_Fin pP eE below _ (s₁.setTop (mkF mM 109 #[.val (.ref a), .val (.int n), .val (.int v), .val (.int r6)] []))
  refine own_fin (b := s₁.setTop (mkF mM 112 #[.val (.ref a), .val (.int n), .val (.int v), .val (.int r6)] [(.int (6 : Int32)), (.int n)])) (fun tT kK => ?_) ?_
  · show Steps pP.tables eE below (s₁.setTop (mkF mM 109 #[.val (.ref a), .val (.int n), .val (.int v), .val (.int r6)] [])) tT
    refine XS.iloadN X0.here hx rfl (Jvm.hb hby own_d3_109) rfl ?_
    show Steps pP.tables eE below (s₁.setTop (mkF mM 110 #[.val (.ref a), .val (.int n), .val (.int v), .val (.int r6)] [(.int n)])) tT
    refine XS.bipush X0.here hx rfl (Jvm.hb hby own_d3_110) ?_
    show Steps pP.tables eE below (s₁.setTop (mkF mM 112 #[.val (.ref a), .val (.int n), .val (.int v), .val (.int r6)] [(.int (6 : Int32)), (.int n)])) tT
    exact kK
  obtain ⟨r7, hr7, st16_⟩ : ∃ r7 : Int32, (r7 = (if (6 : Int32) < n then (if (x6 &&& (255 : Int32)) = v then (6 : Int32) else r6) else r6)) ∧ ∀ tT, Steps pP.tables eE below (s₁.setTop (mkF mM 130 #[.val (.ref a), .val (.int n), .val (.int v), .val (.int r7)] [])) tT → Steps pP.tables eE below (s₁.setTop (mkF mM 112 #[.val (.ref a), .val (.int n), .val (.int v), .val (.int r6)] [(.int (6 : Int32)), (.int n)])) tT := by
    by_cases hm1 : (6 : Int32) < n
    · by_cases hm2 : (x6 &&& (255 : Int32)) = v
      · refine ⟨(6 : Int32), by rw [if_pos hm1, if_pos hm2], fun tT kK => ?_⟩
        refine XS.icmpNo X0.here hx rfl (Jvm.hb hby own_d3_112) rfl (tlt (hm1 : (6 : Int32) < n)).2.2.2 ?_
        show Steps pP.tables eE below (s₁.setTop (mkF mM 115 #[.val (.ref a), .val (.int n), .val (.int v), .val (.int r6)] [])) tT
        refine XS.aloadN X0.here hx rfl (Jvm.hb hby own_d3_115) rfl rfl ?_
        show Steps pP.tables eE below (s₁.setTop (mkF mM 116 #[.val (.ref a), .val (.int n), .val (.int v), .val (.int r6)] [(.ref a)])) tT
        refine XS.bipush X0.here hx rfl (Jvm.hb hby own_d3_116) ?_
        show Steps pP.tables eE below (s₁.setTop (mkF mM 118 #[.val (.ref a), .val (.int n), .val (.int v), .val (.int r6)] [(.int (6 : Int32)), (.ref a)])) tT
        refine X0.baloadBytes hx (j := (6 : Int32)) (v := (.int x6)) (own_rw e0 Ar1_.1) (State.isArrayOf_alike hZ.alike Ar1_.2.1) Ar1_.2.2 hin8_ hat8_ (g := (mkF mM 118 #[.val (.ref a), .val (.int n), .val (.int v), .val (.int r6)] [(.int (6 : Int32)), (.ref a)])) rfl rfl (Jvm.hb hby own_d3_118) _ ?_
        show Steps pP.tables eE below (s₁.setTop (mkF mM 119 #[.val (.ref a), .val (.int n), .val (.int v), .val (.int r6)] [(.int x6)])) tT
        refine XS.sipush X0.here hx rfl (Jvm.hb hby own_d3_119) ?_
        show Steps pP.tables eE below (s₁.setTop (mkF mM 122 #[.val (.ref a), .val (.int n), .val (.int v), .val (.int r6)] [(.int (255 : Int32)), (.int x6)])) tT
        refine XS.iand X0.here hx rfl (Jvm.hb hby own_d3_122) rfl ?_
        show Steps pP.tables eE below (s₁.setTop (mkF mM 123 #[.val (.ref a), .val (.int n), .val (.int v), .val (.int r6)] [(.int (x6 &&& (255 : Int32)))])) tT
        refine XS.iloadN X0.here hx rfl (Jvm.hb hby own_d3_123) rfl ?_
        show Steps pP.tables eE below (s₁.setTop (mkF mM 124 #[.val (.ref a), .val (.int n), .val (.int v), .val (.int r6)] [(.int v), (.int (x6 &&& (255 : Int32)))])) tT
        refine XS.icmpNo X0.here hx rfl (Jvm.hb hby own_d3_124) rfl (teq (hm2 : (x6 &&& (255 : Int32)) = v)).2 ?_
        show Steps pP.tables eE below (s₁.setTop (mkF mM 127 #[.val (.ref a), .val (.int n), .val (.int v), .val (.int r6)] [])) tT
        refine XS.bipush X0.here hx rfl (Jvm.hb hby own_d3_127) ?_
        show Steps pP.tables eE below (s₁.setTop (mkF mM 129 #[.val (.ref a), .val (.int n), .val (.int v), .val (.int r6)] [(.int (6 : Int32))])) tT
        refine XS.istoreN X0.here hx rfl (Jvm.hb hby own_d3_129) rfl (l' := #[.val (.ref a), .val (.int n), .val (.int v), .val (.int (6 : Int32))]) rfl ?_
        show Steps pP.tables eE below (s₁.setTop (mkF mM 130 #[.val (.ref a), .val (.int n), .val (.int v), .val (.int (6 : Int32))] [])) tT
        exact kK
      · refine ⟨r6, by rw [if_pos hm1, if_neg hm2], fun tT kK => ?_⟩
        refine XS.icmpNo X0.here hx rfl (Jvm.hb hby own_d3_112) rfl (tlt (hm1 : (6 : Int32) < n)).2.2.2 ?_
        show Steps pP.tables eE below (s₁.setTop (mkF mM 115 #[.val (.ref a), .val (.int n), .val (.int v), .val (.int r6)] [])) tT
        refine XS.aloadN X0.here hx rfl (Jvm.hb hby own_d3_115) rfl rfl ?_
        show Steps pP.tables eE below (s₁.setTop (mkF mM 116 #[.val (.ref a), .val (.int n), .val (.int v), .val (.int r6)] [(.ref a)])) tT
        refine XS.bipush X0.here hx rfl (Jvm.hb hby own_d3_116) ?_
        show Steps pP.tables eE below (s₁.setTop (mkF mM 118 #[.val (.ref a), .val (.int n), .val (.int v), .val (.int r6)] [(.int (6 : Int32)), (.ref a)])) tT
        refine X0.baloadBytes hx (j := (6 : Int32)) (v := (.int x6)) (own_rw e0 Ar1_.1) (State.isArrayOf_alike hZ.alike Ar1_.2.1) Ar1_.2.2 hin8_ hat8_ (g := (mkF mM 118 #[.val (.ref a), .val (.int n), .val (.int v), .val (.int r6)] [(.int (6 : Int32)), (.ref a)])) rfl rfl (Jvm.hb hby own_d3_118) _ ?_
        show Steps pP.tables eE below (s₁.setTop (mkF mM 119 #[.val (.ref a), .val (.int n), .val (.int v), .val (.int r6)] [(.int x6)])) tT
        refine XS.sipush X0.here hx rfl (Jvm.hb hby own_d3_119) ?_
        show Steps pP.tables eE below (s₁.setTop (mkF mM 122 #[.val (.ref a), .val (.int n), .val (.int v), .val (.int r6)] [(.int (255 : Int32)), (.int x6)])) tT
        refine XS.iand X0.here hx rfl (Jvm.hb hby own_d3_122) rfl ?_
        show Steps pP.tables eE below (s₁.setTop (mkF mM 123 #[.val (.ref a), .val (.int n), .val (.int v), .val (.int r6)] [(.int (x6 &&& (255 : Int32)))])) tT
        refine XS.iloadN X0.here hx rfl (Jvm.hb hby own_d3_123) rfl ?_
        show Steps pP.tables eE below (s₁.setTop (mkF mM 124 #[.val (.ref a), .val (.int n), .val (.int v), .val (.int r6)] [(.int v), (.int (x6 &&& (255 : Int32)))])) tT
        refine XS.icmpYes X0.here hx rfl (pc0 := 124) (pc' := 130) rfl (Jvm.hb hby own_d3_124) rfl (feq (hm2 : ¬ ((x6 &&& (255 : Int32)) = v))).2 (by decide) (by decide) ?_
        show Steps pP.tables eE below (s₁.setTop (mkF mM 130 #[.val (.ref a), .val (.int n), .val (.int v), .val (.int r6)] [])) tT
        exact kK
    · refine ⟨r6, by rw [if_neg hm1], fun tT kK => ?_⟩
      refine XS.icmpYes X0.here hx rfl (pc0 := 112) (pc' := 130) rfl (Jvm.hb hby own_d3_112) rfl (flt (hm1 : ¬ ((6 : Int32) < n))).2.2.2 (by decide) (by decide) ?_
      show Steps pP.tables eE below (s₁.setTop (mkF mM 130 #[.val (.ref a), .val (.int n), .val (.int v), .val (.int r6)] [])) tT
      exact kK
  refine own_fin st16_ ?_
  show own_Fin pP eE below _ (s₁.setTop (mkF mM 130 #[.val (.ref a), .val (.int n), .val (.int v), .val (.int r7)] []))
  refine own_fin (b := s₁.setTop (mkF mM 133 #[.val (.ref a), .val (.int n), .val (.int v), .val (.int r7)] [(.int (7 : Int32)), (.int n)])) (fun tT kK => ?_) ?_
  · show Steps pP.tables eE below (s₁.setTop (mkF mM 130 #[.val (.ref a), .val (.int n), .val (.int v), .val (.int r7)] [])) tT
    refine XS.iloadN X0.here hx rfl (Jvm.hb hby own_d3_130) rfl ?_
    show Steps pP.tables eE below (s₁.setTop (mkF mM 131 #[.val (.ref a), .val (.int n), .val (.int v), .val (.int r7)] [(.int n)])) tT
    refine XS.bipush X0.here hx rfl (Jvm.hb hby own_d3_131) ?_
    show Steps pP.tables eE below (s₁.setTop (mkF mM 133 #[.val (.ref a), .val (.int n), .val (.int v), .val (.int r7)] [(.int (7 : Int32)), (.int n)])) tT
    exact kK
  obtain ⟨r8, hr8, st17_⟩ : ∃ r8 : Int32, (r8 = (if (7 : Int32) < n then (if (x7 &&& (255 : Int32)) = v then (7 : Int32) else r7) else r7)) ∧ ∀ tT, Steps pP.tables eE below (s₁.setTop (mkF mM 151 #[.val (.ref a), .val (.int n), .val (.int v), .val (.int r8)] [])) tT → Steps pP.tables eE below (s₁.setTop (mkF mM 133 #[.val (.ref a), .val (.int n), .val (.int v), .val (.int r7)] [(.int (7 : Int32)), (.int n)])) tT := by
    by_cases hm1 : (7 : Int32) < n
    · by_cases hm2 : (x7 &&& (255 : Int32)) = v
      · refine ⟨(7 : Int32), by rw [if_pos hm1, if_pos hm2], fun tT kK => ?_⟩
        refine XS.icmpNo X0.here hx rfl (Jvm.hb hby own_d3_133) rfl (tlt (hm1 : (7 : Int32) < n)).2.2.2 ?_
        show Steps pP.tables eE below (s₁.setTop (mkF mM 136 #[.val (.ref a), .val (.int n), .val (.int v), .val (.int r7)] [])) tT
        refine XS.aloadN X0.here hx rfl (Jvm.hb hby own_d3_136) rfl rfl ?_
        show Steps pP.tables eE below (s₁.setTop (mkF mM 137 #[.val (.ref a), .val (.int n), .val (.int v), .val (.int r7)] [(.ref a)])) tT
        refine XS.bipush X0.here hx rfl (Jvm.hb hby own_d3_137) ?_
        show Steps pP.tables eE below (s₁.setTop (mkF mM 139 #[.val (.ref a), .val (.int n), .val (.int v), .val (.int r7)] [(.int (7 : Int32)), (.ref a)])) tT
        refine X0.baloadBytes hx (j := (7 : Int32)) (v := (.int x7)) (own_rw e0 Ar1_.1) (State.isArrayOf_alike hZ.alike Ar1_.2.1) Ar1_.2.2 hin9_ hat9_ (g := (mkF mM 139 #[.val (.ref a), .val (.int n), .val (.int v), .val (.int r7)] [(.int (7 : Int32)), (.ref a)])) rfl rfl (Jvm.hb hby own_d3_139) _ ?_
        show Steps pP.tables eE below (s₁.setTop (mkF mM 140 #[.val (.ref a), .val (.int n), .val (.int v), .val (.int r7)] [(.int x7)])) tT
        refine XS.sipush X0.here hx rfl (Jvm.hb hby own_d3_140) ?_
        show Steps pP.tables eE below (s₁.setTop (mkF mM 143 #[.val (.ref a), .val (.int n), .val (.int v), .val (.int r7)] [(.int (255 : Int32)), (.int x7)])) tT
        refine XS.iand X0.here hx rfl (Jvm.hb hby own_d3_143) rfl ?_
        show Steps pP.tables eE below (s₁.setTop (mkF mM 144 #[.val (.ref a), .val (.int n), .val (.int v), .val (.int r7)] [(.int (x7 &&& (255 : Int32)))])) tT
        refine XS.iloadN X0.here hx rfl (Jvm.hb hby own_d3_144) rfl ?_
        show Steps pP.tables eE below (s₁.setTop (mkF mM 145 #[.val (.ref a), .val (.int n), .val (.int v), .val (.int r7)] [(.int v), (.int (x7 &&& (255 : Int32)))])) tT
        refine XS.icmpNo X0.here hx rfl (Jvm.hb hby own_d3_145) rfl (teq (hm2 : (x7 &&& (255 : Int32)) = v)).2 ?_
        show Steps pP.tables eE below (s₁.setTop (mkF mM 148 #[.val (.ref a), .val (.int n), .val (.int v), .val (.int r7)] [])) tT
        refine XS.bipush X0.here hx rfl (Jvm.hb hby own_d3_148) ?_
        show Steps pP.tables eE below (s₁.setTop (mkF mM 150 #[.val (.ref a), .val (.int n), .val (.int v), .val (.int r7)] [(.int (7 : Int32))])) tT
        refine XS.istoreN X0.here hx rfl (Jvm.hb hby own_d3_150) rfl (l' := #[.val (.ref a), .val (.int n), .val (.int v), .val (.int (7 : Int32))]) rfl ?_
        show Steps pP.tables eE below (s₁.setTop (mkF mM 151 #[.val (.ref a), .val (.int n), .val (.int v), .val (.int (7 : Int32))] [])) tT
        exact kK
      · refine ⟨r7, by rw [if_pos hm1, if_neg hm2], fun tT kK => ?_⟩
        refine XS.icmpNo X0.here hx rfl (Jvm.hb hby own_d3_133) rfl (tlt (hm1 : (7 : Int32) < n)).2.2.2 ?_
        show Steps pP.tables eE below (s₁.setTop (mkF mM 136 #[.val (.ref a), .val (.int n), .val (.int v), .val (.int r7)] [])) tT
        refine XS.aloadN X0.here hx rfl (Jvm.hb hby own_d3_136) rfl rfl ?_
        show Steps pP.tables eE below (s₁.setTop (mkF mM 137 #[.val (.ref a), .val (.int n), .val (.int v), .val (.int r7)] [(.ref a)])) tT
        refine XS.bipush X0.here hx rfl (Jvm.hb hby own_d3_137) ?_
        show Steps pP.tables eE below (s₁.setTop (mkF mM 139 #[.val (.ref a), .val (.int n), .val (.int v), .val (.int r7)] [(.int (7 : Int32)), (.ref a)])) tT
        refine X0.baloadBytes hx (j := (7 : Int32)) (v := (.int x7)) (own_rw e0 Ar1_.1) (State.isArrayOf_alike hZ.alike Ar1_.2.1) Ar1_.2.2 hin9_ hat9_ (g := (mkF mM 139 #[.val (.ref a), .val (.int n), .val (.int v), .val (.int r7)] [(.int (7 : Int32)), (.ref a)])) rfl rfl (Jvm.hb hby own_d3_139) _ ?_
        show Steps pP.tables eE below (s₁.setTop (mkF mM 140 #[.val (.ref a), .val (.int n), .val (.int v), .val (.int r7)] [(.int x7)])) tT
        refine XS.sipush X0.here hx rfl (Jvm.hb hby own_d3_140) ?_
        show Steps pP.tables eE below (s₁.setTop (mkF mM 143 #[.val (.ref a), .val (.int n), .val (.int v), .val (.int r7)] [(.int (255 : Int32)), (.int x7)])) tT
        refine XS.iand X0.here hx rfl (Jvm.hb hby own_d3_143) rfl ?_
        show Steps pP.tables eE below (s₁.setTop (mkF mM 144 #[.val (.ref a), .val (.int n), .val (.int v), .val (.int r7)] [(.int (x7 &&& (255 : Int32)))])) tT
        refine XS.iloadN X0.here hx rfl (Jvm.hb hby own_d3_144) rfl ?_
        show Steps pP.tables eE below (s₁.setTop (mkF mM 145 #[.val (.ref a), .val (.int n), .val (.int v), .val (.int r7)] [(.int v), (.int (x7 &&& (255 : Int32)))])) tT
        refine XS.icmpYes X0.here hx rfl (pc0 := 145) (pc' := 151) rfl (Jvm.hb hby own_d3_145) rfl (feq (hm2 : ¬ ((x7 &&& (255 : Int32)) = v))).2 (by decide) (by decide) ?_
        show Steps pP.tables eE below (s₁.setTop (mkF mM 151 #[.val (.ref a), .val (.int n), .val (.int v), .val (.int r7)] [])) tT
        exact kK
    · refine ⟨r7, by rw [if_neg hm1], fun tT kK => ?_⟩
      refine XS.icmpYes X0.here hx rfl (pc0 := 133) (pc' := 151) rfl (Jvm.hb hby own_d3_133) rfl (flt (hm1 : ¬ ((7 : Int32) < n))).2.2.2 (by decide) (by decide) ?_
      show Steps pP.tables eE below (s₁.setTop (mkF mM 151 #[.val (.ref a), .val (.int n), .val (.int v), .val (.int r7)] [])) tT
      exact kK
  refine own_fin st17_ ?_
  show own_Fin pP eE below _ (s₁.setTop (mkF mM 151 #[.val (.ref a), .val (.int n), .val (.int v), .val (.int r8)] []))
  refine own_fin (b := s₁.setTop (mkF mM 152 #[.val (.ref a), .val (.int n), .val (.int v), .val (.int r8)] [(.int r8)])) (fun tT kK => ?_) ?_
  · show Steps pP.tables eE below (s₁.setTop (mkF mM 151 #[.val (.ref a), .val (.int n), .val (.int v), .val (.int r8)] [])) tT
    refine XS.iloadN X0.here hx rfl (Jvm.hb hby own_d3_151) rfl ?_
    show Steps pP.tables eE below (s₁.setTop (mkF mM 152 #[.val (.ref a), .val (.int n), .val (.int v), .val (.int r8)] [(.int r8)])) tT
    exact kK
  obtain ⟨fs, hr, hrun, hended, hW, hsame⟩ := X0.leave (v := some (.int r8)) (fun h => by rw [Bd.returns] at h; cases h)
  refine ⟨_, _, ?_, hrun, hended, _, _, rfl, ?_, ⟨_, rfl⟩, hW, hsame.mono (by decide) (by decide)⟩
  · show Steps pP.tables eE below (s₁.setTop (mkF mM 152 #[.val (.ref a), .val (.int n), .val (.int v), .val (.int r8)] [(.int r8)])) _
    exact retOut X0 hx Bd.returns rfl (Or.inl ⟨rfl, Or.inl rfl, _, rfl⟩) (Jvm.hb hby own_d3_152) hr
  · show Q_rm_ref Z a kc n v x0 x1 x2 x3 x4 x5 x6 x7 h0 n0 _ s₁.heap _
    rw [e0]
    exact ⟨by subst hr8 hr7 hr6 hr5 hr4 hr3 hr2 hr1; rfl, N0, rfl⟩
theorem own_pd1 : parseMethodDescriptor "([B)[I" = some ⟨[(.array .byte)], some (.array .int)⟩ := by decide +kernel
theorem own_pd2 : parseMethodDescriptor "([BII)I" = some ⟨[(.array .byte), .int, .int], some .int⟩ := by decide +kernel
theorem own_ef_rm0 (mM : MethodId) (x0 : Int32) (x1 : Int32) (x2 : Int32) (x3 : Int32) : entryFrame mM #[(.int x0), (.int x1), (.int x2), (.int x3)] maxLocals = mkF mM 0 #[.val (.int x0), .val (.int x1), .val (.int x2), .val (.int x3), .unset, .unset, .unset, .unset, .unset, .unset, .unset] [] := by first | (simp [entryFrame, mkF, argsToLocals, Value.category, maxLocals]; done) | rfl
def Q_rm0 (Z : State) (p1 : Int32) (p2 : Int32) (p3 : Int32) (p4 : Int32) (h0 : Heap) (n0 : Nat) (vV : Option Value) (hH : Heap) (lA : List Loc) : Prop := vV = some (.int (1 : Int32)) ∧ Fr n0 lA
set_option maxRecDepth 65536 in
set_option maxHeartbeats 40000000 in
theorem rm0 (lL : Launch) (Z : State) (a0 : Array Value) (hw : ∀ d ∈ tables_1, d.before a0 Z = true) (ws : List Jvm.Cond) (p1 : Int32) (p2 : Int32) (p3 : Int32) (p4 : Int32) (h0 : Heap) (n0 : Nat) (Z0 : n0 ≤ h0.size) :
    MetFree lL x (head1 (Jvm.Cond.code x code maxLocals ret :: ws) room_1) (fun aA uU => aA = #[(.int p1), (.int p2), (.int p3), (.int p4)] ∧ Z.Warmed39 uU.vm ∧ uU.heap = h0) (fun _ _ _ _ _ => True) (fun _ uU oO uU' => ∃ vV lA, oO = .returned vV ∧ Q_rm0 Z p1 p2 p3 p4 h0 n0 vV uU'.heap lA ∧ FrameEnd uU oO uU' lA room_1.cells room_1.slots) := by
  refine MetFree.of_bodySF (plainFor_of_name own_pn_com_example_needlework_needlework_BoyerMooreRightmostPinLaw) hisR ?_
  intro pP eE sS mM args below meth cC s₁ Bd hml0 hP hK
  obtain ⟨rfl, hZ, hh⟩ := hP
  have hx := Bd.exec
  have hby := Bd.bytes
  have hml : cC.maxLocals = 11 := hml0
  have hown : sS.vm.findClass "com/example/needlework/needlework/BoyerMooreRightmostPinLaw" = some mM.cls := findClass_of_methodNamed Bd.named
  have hnm := (name_of_methodNamed Bd.named Bd.method).1
  have X0 : Stand pP lL eE room_1 sS mM #[(.int p1), (.int p2), (.int p3), (.int p4)] below meth cC s₁ [] 0 0 := Stand.of_body Bd
  have e0 : s₁.heap = h0 := by rw [← hh, Bd.state]; rfl
  have N0 := Fr.nil n0
  have K0 := Keep.refl h0 ([] : List Addr)
  show own_Fin pP eE below (fun tT oO => ∃ vV lA, oO = .returned vV ∧ Q_rm0 Z p1 p2 p3 p4 h0 n0 vV tT.heap lA ∧ FrameEnd sS oO tT lA room_1.cells room_1.slots) (s₁.setTop (entryFrame mM #[(.int p1), (.int p2), (.int p3), (.int p4)] maxLocals))
  refine own_fin (b := s₁.setTop (mkF mM 0 #[.val (.int p1), .val (.int p2), .val (.int p3), .val (.int p4), .unset, .unset, .unset, .unset, .unset, .unset, .unset] [])) (fun tT kK => castTop (own_ef_rm0 mM p1 p2 p3 p4) kK) ?_
  refine own_fin (b := s₁.setTop (mkF mM 9 #[.val (.int p1), .val (.int p2), .val (.int p3), .val (.int p4), .val (.int ((p1 &&& (15 : Int32)) % (9 : Int32))), .unset, .unset, .unset, .unset, .unset, .unset] [])) (fun tT kK => ?_) ?_
  · show Steps pP.tables eE below (s₁.setTop (mkF mM 0 #[.val (.int p1), .val (.int p2), .val (.int p3), .val (.int p4), .unset, .unset, .unset, .unset, .unset, .unset, .unset] [])) tT
    refine XS.iloadN X0.here hx rfl (Jvm.hb hby at_0) rfl ?_
    show Steps pP.tables eE below (s₁.setTop (mkF mM 1 #[.val (.int p1), .val (.int p2), .val (.int p3), .val (.int p4), .unset, .unset, .unset, .unset, .unset, .unset, .unset] [(.int p1)])) tT
    refine XS.bipush X0.here hx rfl (Jvm.hb hby at_1) ?_
    show Steps pP.tables eE below (s₁.setTop (mkF mM 3 #[.val (.int p1), .val (.int p2), .val (.int p3), .val (.int p4), .unset, .unset, .unset, .unset, .unset, .unset, .unset] [(.int (15 : Int32)), (.int p1)])) tT
    refine XS.iand X0.here hx rfl (Jvm.hb hby at_3) rfl ?_
    show Steps pP.tables eE below (s₁.setTop (mkF mM 4 #[.val (.int p1), .val (.int p2), .val (.int p3), .val (.int p4), .unset, .unset, .unset, .unset, .unset, .unset, .unset] [(.int (p1 &&& (15 : Int32)))])) tT
    refine XS.bipush X0.here hx rfl (Jvm.hb hby at_4) ?_
    show Steps pP.tables eE below (s₁.setTop (mkF mM 6 #[.val (.int p1), .val (.int p2), .val (.int p3), .val (.int p4), .unset, .unset, .unset, .unset, .unset, .unset, .unset] [(.int (9 : Int32)), (.int (p1 &&& (15 : Int32)))])) tT
    refine iremM X0 hx rfl (Jvm.hb hby at_6) rfl (by decide) ?_
    show Steps pP.tables eE below (s₁.setTop (mkF mM 7 #[.val (.int p1), .val (.int p2), .val (.int p3), .val (.int p4), .unset, .unset, .unset, .unset, .unset, .unset, .unset] [(.int ((p1 &&& (15 : Int32)) % (9 : Int32)))])) tT
    refine XS.istore X0.here hx rfl (Jvm.hb hby at_7) rfl (l' := #[.val (.int p1), .val (.int p2), .val (.int p3), .val (.int p4), .val (.int ((p1 &&& (15 : Int32)) % (9 : Int32))), .unset, .unset, .unset, .unset, .unset, .unset]) rfl ?_
    show Steps pP.tables eE below (s₁.setTop (mkF mM 9 #[.val (.int p1), .val (.int p2), .val (.int p3), .val (.int p4), .val (.int ((p1 &&& (15 : Int32)) % (9 : Int32))), .unset, .unset, .unset, .unset, .unset, .unset] [])) tT
    exact kK
  show own_Fin pP eE below _ (s₁.setTop (mkF mM 9 #[.val (.int p1), .val (.int p2), .val (.int p3), .val (.int p4), .val (.int ((p1 &&& (15 : Int32)) % (9 : Int32))), .unset, .unset, .unset, .unset, .unset, .unset] []))
  generalize hnv : ((p1 &&& (15 : Int32)) % (9 : Int32)) = nv
  show own_Fin pP eE below _ (s₁.setTop (mkF mM 9 #[.val (.int p1), .val (.int p2), .val (.int p3), .val (.int p4), .val (.int nv), .unset, .unset, .unset, .unset, .unset, .unset] []))
  have hn9 := own_n9 p1
  rw [hnv] at hn9
  clear hnv
  refine own_fin (b := s₁.setTop (mkF mM 11 #[.val (.int p1), .val (.int p2), .val (.int p3), .val (.int p4), .val (.int nv), .unset, .unset, .unset, .unset, .unset, .unset] [(.int (8 : Int32))])) (fun tT kK => ?_) ?_
  · show Steps pP.tables eE below (s₁.setTop (mkF mM 9 #[.val (.int p1), .val (.int p2), .val (.int p3), .val (.int p4), .val (.int nv), .unset, .unset, .unset, .unset, .unset, .unset] [])) tT
    refine XS.bipush X0.here hx rfl (Jvm.hb hby at_9) ?_
    show Steps pP.tables eE below (s₁.setTop (mkF mM 11 #[.val (.int p1), .val (.int p2), .val (.int p3), .val (.int p4), .val (.int nv), .unset, .unset, .unset, .unset, .unset, .unset] [(.int (8 : Int32))])) tT
    exact kK
  obtain ⟨T1_, h1_, k1_, X1_, e1_, E1_, A1_, st1_⟩ := newP X0 hx hZ (hw _ (List.mem_of_getElem? (i := 0) rfl)) e0 (g := (mkF mM 11 #[.val (.int p1), .val (.int p2), .val (.int p3), .val (.int p4), .val (.int nv), .unset, .unset, .unset, .unset, .unset, .unset] [(.int (8 : Int32))])) rfl (Jvm.hb hby at_11) rfl (by decide) (cap := 8) (by decide) (by decide) (by decide) (by decide)
  obtain ⟨b1_, g1_⟩ : ∃ z, z = h0.size := ⟨_, rfl⟩
  rw [← g1_] at A1_ st1_
  have sz_b1_ : h0.size ≤ b1_ := Nat.le_trans K0.1 (Nat.le_of_eq g1_.symm)
  have ge_b1_ : n0 ≤ b1_ := Nat.le_trans Z0 sz_b1_
  have K1_ := K0.ext E1_
  have V1_ : Arv Z h1_ b1_ k1_ .byte (8 : Int32) [(.int (0 : Int32)), (.int (0 : Int32)), (.int (0 : Int32)), (.int (0 : Int32)), (.int (0 : Int32)), (.int (0 : Int32)), (.int (0 : Int32)), (.int (0 : Int32))] (.int (0 : Int32)) := (Arv.new A1_ (by decide)).pad (pad_rep [] (.int (0 : Int32)) 8)
  refine own_fin st1_ ?_
  show own_Fin pP eE below _ (T1_.setTop (mkF mM 13 #[.val (.int p1), .val (.int p2), .val (.int p3), .val (.int p4), .val (.int nv), .unset, .unset, .unset, .unset, .unset, .unset] [(.ref b1_)]))
  refine own_fin (b := T1_.setTop (mkF mM 20 #[.val (.int p1), .val (.int p2), .val (.int p3), .val (.int p4), .val (.int nv), .val (.ref b1_), .unset, .unset, .unset, .unset, .unset] [(.int (p2.toInt8.toInt32)), (.int (0 : Int32)), (.ref b1_)])) (fun tT kK => ?_) ?_
  · show Steps pP.tables eE below (T1_.setTop (mkF mM 13 #[.val (.int p1), .val (.int p2), .val (.int p3), .val (.int p4), .val (.int nv), .unset, .unset, .unset, .unset, .unset, .unset] [(.ref b1_)])) tT
    refine XS.astore X1_.here hx rfl (Jvm.hb hby at_13) rfl rfl (l' := #[.val (.int p1), .val (.int p2), .val (.int p3), .val (.int p4), .val (.int nv), .val (.ref b1_), .unset, .unset, .unset, .unset, .unset]) rfl ?_
    show Steps pP.tables eE below (T1_.setTop (mkF mM 15 #[.val (.int p1), .val (.int p2), .val (.int p3), .val (.int p4), .val (.int nv), .val (.ref b1_), .unset, .unset, .unset, .unset, .unset] [])) tT
    refine XS.aload X1_.here hx rfl (Jvm.hb hby at_15) rfl rfl ?_
    show Steps pP.tables eE below (T1_.setTop (mkF mM 17 #[.val (.int p1), .val (.int p2), .val (.int p3), .val (.int p4), .val (.int nv), .val (.ref b1_), .unset, .unset, .unset, .unset, .unset] [(.ref b1_)])) tT
    refine XS.iconst X1_.here hx rfl (Jvm.hb hby at_17) ?_
    show Steps pP.tables eE below (T1_.setTop (mkF mM 18 #[.val (.int p1), .val (.int p2), .val (.int p3), .val (.int p4), .val (.int nv), .val (.ref b1_), .unset, .unset, .unset, .unset, .unset] [(.int (0 : Int32)), (.ref b1_)])) tT
    refine XS.iloadN X1_.here hx rfl (Jvm.hb hby at_18) rfl ?_
    show Steps pP.tables eE below (T1_.setTop (mkF mM 19 #[.val (.int p1), .val (.int p2), .val (.int p3), .val (.int p4), .val (.int nv), .val (.ref b1_), .unset, .unset, .unset, .unset, .unset] [(.int p2), (.int (0 : Int32)), (.ref b1_)])) tT
    refine XS.i2b X1_.here hx rfl (Jvm.hb hby at_19) rfl ?_
    show Steps pP.tables eE below (T1_.setTop (mkF mM 20 #[.val (.int p1), .val (.int p2), .val (.int p3), .val (.int p4), .val (.int nv), .val (.ref b1_), .unset, .unset, .unset, .unset, .unset] [(.int (p2.toInt8.toInt32)), (.int (0 : Int32)), (.ref b1_)])) tT
    exact kK
  obtain ⟨cl2_, Ar2_, qk2_, Sz2_, Nn2_, Hh2_, Gg2_⟩ := id V1_
  have hin3_ : ¬ ((0 : Int32) < 0 ∨ cl2_.slots.size ≤ ((0 : Int32)).toNatClampNeg) := inb_of Sz2_ ⟨by decide, by decide⟩
  obtain ⟨T3_, h3_, X3_, e3_, W3_, st3_⟩ := stB X1_ hx hZ e1_ Ar2_ (j := (0 : Int32)) hin3_ (g := (mkF mM 20 #[.val (.int p1), .val (.int p2), .val (.int p3), .val (.int p4), .val (.int nv), .val (.ref b1_), .unset, .unset, .unset, .unset, .unset] [(.int (p2.toInt8.toInt32)), (.int (0 : Int32)), (.ref b1_)])) rfl rfl (Jvm.hb hby at_20)
  have V3_ : Arv Z h3_ b1_ k1_ .byte (8 : Int32) [(.int (nar .byte (p2.toInt8.toInt32))), (.int (0 : Int32)), (.int (0 : Int32)), (.int (0 : Int32)), (.int (0 : Int32)), (.int (0 : Int32)), (.int (0 : Int32)), (.int (0 : Int32))] (.int (0 : Int32)) := Arv.set Ar2_ qk2_ Sz2_ Nn2_ Hh2_ Gg2_ (fits_nar_byte _) W3_ 0 rfl (Nat.le_of_ble_eq_true rfl)
  have K3_ := K1_.wr W3_ (Or.inr sz_b1_)
  have N3_ := Fr.snoc X3_ N0 ge_b1_
  refine own_fin st3_ ?_
  show own_Fin pP eE below _ (T3_.setTop (mkF mM 21 #[.val (.int p1), .val (.int p2), .val (.int p3), .val (.int p4), .val (.int nv), .val (.ref b1_), .unset, .unset, .unset, .unset, .unset] []))
  refine own_fin (b := T3_.setTop (mkF mM 29 #[.val (.int p1), .val (.int p2), .val (.int p3), .val (.int p4), .val (.int nv), .val (.ref b1_), .unset, .unset, .unset, .unset, .unset] [(.int (((p2.toUInt32 >>> ((8 : Int32) &&& 31).toUInt32).toInt32).toInt8.toInt32)), (.int (1 : Int32)), (.ref b1_)])) (fun tT kK => ?_) ?_
  · show Steps pP.tables eE below (T3_.setTop (mkF mM 21 #[.val (.int p1), .val (.int p2), .val (.int p3), .val (.int p4), .val (.int nv), .val (.ref b1_), .unset, .unset, .unset, .unset, .unset] [])) tT
    refine XS.aload X3_.here hx rfl (Jvm.hb hby at_21) rfl rfl ?_
    show Steps pP.tables eE below (T3_.setTop (mkF mM 23 #[.val (.int p1), .val (.int p2), .val (.int p3), .val (.int p4), .val (.int nv), .val (.ref b1_), .unset, .unset, .unset, .unset, .unset] [(.ref b1_)])) tT
    refine XS.iconst X3_.here hx rfl (Jvm.hb hby at_23) ?_
    show Steps pP.tables eE below (T3_.setTop (mkF mM 24 #[.val (.int p1), .val (.int p2), .val (.int p3), .val (.int p4), .val (.int nv), .val (.ref b1_), .unset, .unset, .unset, .unset, .unset] [(.int (1 : Int32)), (.ref b1_)])) tT
    refine XS.iloadN X3_.here hx rfl (Jvm.hb hby at_24) rfl ?_
    show Steps pP.tables eE below (T3_.setTop (mkF mM 25 #[.val (.int p1), .val (.int p2), .val (.int p3), .val (.int p4), .val (.int nv), .val (.ref b1_), .unset, .unset, .unset, .unset, .unset] [(.int p2), (.int (1 : Int32)), (.ref b1_)])) tT
    refine XS.bipush X3_.here hx rfl (Jvm.hb hby at_25) ?_
    show Steps pP.tables eE below (T3_.setTop (mkF mM 27 #[.val (.int p1), .val (.int p2), .val (.int p3), .val (.int p4), .val (.int nv), .val (.ref b1_), .unset, .unset, .unset, .unset, .unset] [(.int (8 : Int32)), (.int p2), (.int (1 : Int32)), (.ref b1_)])) tT
    refine XS.iushr X3_.here hx rfl (Jvm.hb hby at_27) rfl ?_
    show Steps pP.tables eE below (T3_.setTop (mkF mM 28 #[.val (.int p1), .val (.int p2), .val (.int p3), .val (.int p4), .val (.int nv), .val (.ref b1_), .unset, .unset, .unset, .unset, .unset] [(.int ((p2.toUInt32 >>> ((8 : Int32) &&& 31).toUInt32).toInt32)), (.int (1 : Int32)), (.ref b1_)])) tT
    refine XS.i2b X3_.here hx rfl (Jvm.hb hby at_28) rfl ?_
    show Steps pP.tables eE below (T3_.setTop (mkF mM 29 #[.val (.int p1), .val (.int p2), .val (.int p3), .val (.int p4), .val (.int nv), .val (.ref b1_), .unset, .unset, .unset, .unset, .unset] [(.int (((p2.toUInt32 >>> ((8 : Int32) &&& 31).toUInt32).toInt32).toInt8.toInt32)), (.int (1 : Int32)), (.ref b1_)])) tT
    exact kK
  obtain ⟨cl4_, Ar4_, qk4_, Sz4_, Nn4_, Hh4_, Gg4_⟩ := id V3_
  have hin5_ : ¬ ((1 : Int32) < 0 ∨ cl4_.slots.size ≤ ((1 : Int32)).toNatClampNeg) := inb_of Sz4_ ⟨by decide, by decide⟩
  obtain ⟨T5_, h5_, X5_, e5_, W5_, st5_⟩ := stB X3_ hx hZ e3_ Ar4_ (j := (1 : Int32)) hin5_ (g := (mkF mM 29 #[.val (.int p1), .val (.int p2), .val (.int p3), .val (.int p4), .val (.int nv), .val (.ref b1_), .unset, .unset, .unset, .unset, .unset] [(.int (((p2.toUInt32 >>> ((8 : Int32) &&& 31).toUInt32).toInt32).toInt8.toInt32)), (.int (1 : Int32)), (.ref b1_)])) rfl rfl (Jvm.hb hby at_29)
  have V5_ : Arv Z h5_ b1_ k1_ .byte (8 : Int32) [(.int (nar .byte (p2.toInt8.toInt32))), (.int (nar .byte (((p2.toUInt32 >>> ((8 : Int32) &&& 31).toUInt32).toInt32).toInt8.toInt32))), (.int (0 : Int32)), (.int (0 : Int32)), (.int (0 : Int32)), (.int (0 : Int32)), (.int (0 : Int32)), (.int (0 : Int32))] (.int (0 : Int32)) := Arv.set Ar4_ qk4_ Sz4_ Nn4_ Hh4_ Gg4_ (fits_nar_byte _) W5_ 1 rfl (Nat.le_of_ble_eq_true rfl)
  have K5_ := K3_.wr W5_ (Or.inr sz_b1_)
  have N5_ := Fr.snoc X5_ N3_ ge_b1_
  refine own_fin st5_ ?_
  show own_Fin pP eE below _ (T5_.setTop (mkF mM 30 #[.val (.int p1), .val (.int p2), .val (.int p3), .val (.int p4), .val (.int nv), .val (.ref b1_), .unset, .unset, .unset, .unset, .unset] []))
  refine own_fin (b := T5_.setTop (mkF mM 38 #[.val (.int p1), .val (.int p2), .val (.int p3), .val (.int p4), .val (.int nv), .val (.ref b1_), .unset, .unset, .unset, .unset, .unset] [(.int (((p2.toUInt32 >>> ((16 : Int32) &&& 31).toUInt32).toInt32).toInt8.toInt32)), (.int (2 : Int32)), (.ref b1_)])) (fun tT kK => ?_) ?_
  · show Steps pP.tables eE below (T5_.setTop (mkF mM 30 #[.val (.int p1), .val (.int p2), .val (.int p3), .val (.int p4), .val (.int nv), .val (.ref b1_), .unset, .unset, .unset, .unset, .unset] [])) tT
    refine XS.aload X5_.here hx rfl (Jvm.hb hby at_30) rfl rfl ?_
    show Steps pP.tables eE below (T5_.setTop (mkF mM 32 #[.val (.int p1), .val (.int p2), .val (.int p3), .val (.int p4), .val (.int nv), .val (.ref b1_), .unset, .unset, .unset, .unset, .unset] [(.ref b1_)])) tT
    refine XS.iconst X5_.here hx rfl (Jvm.hb hby at_32) ?_
    show Steps pP.tables eE below (T5_.setTop (mkF mM 33 #[.val (.int p1), .val (.int p2), .val (.int p3), .val (.int p4), .val (.int nv), .val (.ref b1_), .unset, .unset, .unset, .unset, .unset] [(.int (2 : Int32)), (.ref b1_)])) tT
    refine XS.iloadN X5_.here hx rfl (Jvm.hb hby at_33) rfl ?_
    show Steps pP.tables eE below (T5_.setTop (mkF mM 34 #[.val (.int p1), .val (.int p2), .val (.int p3), .val (.int p4), .val (.int nv), .val (.ref b1_), .unset, .unset, .unset, .unset, .unset] [(.int p2), (.int (2 : Int32)), (.ref b1_)])) tT
    refine XS.bipush X5_.here hx rfl (Jvm.hb hby at_34) ?_
    show Steps pP.tables eE below (T5_.setTop (mkF mM 36 #[.val (.int p1), .val (.int p2), .val (.int p3), .val (.int p4), .val (.int nv), .val (.ref b1_), .unset, .unset, .unset, .unset, .unset] [(.int (16 : Int32)), (.int p2), (.int (2 : Int32)), (.ref b1_)])) tT
    refine XS.iushr X5_.here hx rfl (Jvm.hb hby at_36) rfl ?_
    show Steps pP.tables eE below (T5_.setTop (mkF mM 37 #[.val (.int p1), .val (.int p2), .val (.int p3), .val (.int p4), .val (.int nv), .val (.ref b1_), .unset, .unset, .unset, .unset, .unset] [(.int ((p2.toUInt32 >>> ((16 : Int32) &&& 31).toUInt32).toInt32)), (.int (2 : Int32)), (.ref b1_)])) tT
    refine XS.i2b X5_.here hx rfl (Jvm.hb hby at_37) rfl ?_
    show Steps pP.tables eE below (T5_.setTop (mkF mM 38 #[.val (.int p1), .val (.int p2), .val (.int p3), .val (.int p4), .val (.int nv), .val (.ref b1_), .unset, .unset, .unset, .unset, .unset] [(.int (((p2.toUInt32 >>> ((16 : Int32) &&& 31).toUInt32).toInt32).toInt8.toInt32)), (.int (2 : Int32)), (.ref b1_)])) tT
    exact kK
  obtain ⟨cl6_, Ar6_, qk6_, Sz6_, Nn6_, Hh6_, Gg6_⟩ := id V5_
  have hin7_ : ¬ ((2 : Int32) < 0 ∨ cl6_.slots.size ≤ ((2 : Int32)).toNatClampNeg) := inb_of Sz6_ ⟨by decide, by decide⟩
  obtain ⟨T7_, h7_, X7_, e7_, W7_, st7_⟩ := stB X5_ hx hZ e5_ Ar6_ (j := (2 : Int32)) hin7_ (g := (mkF mM 38 #[.val (.int p1), .val (.int p2), .val (.int p3), .val (.int p4), .val (.int nv), .val (.ref b1_), .unset, .unset, .unset, .unset, .unset] [(.int (((p2.toUInt32 >>> ((16 : Int32) &&& 31).toUInt32).toInt32).toInt8.toInt32)), (.int (2 : Int32)), (.ref b1_)])) rfl rfl (Jvm.hb hby at_38)
  have V7_ : Arv Z h7_ b1_ k1_ .byte (8 : Int32) [(.int (nar .byte (p2.toInt8.toInt32))), (.int (nar .byte (((p2.toUInt32 >>> ((8 : Int32) &&& 31).toUInt32).toInt32).toInt8.toInt32))), (.int (nar .byte (((p2.toUInt32 >>> ((16 : Int32) &&& 31).toUInt32).toInt32).toInt8.toInt32))), (.int (0 : Int32)), (.int (0 : Int32)), (.int (0 : Int32)), (.int (0 : Int32)), (.int (0 : Int32))] (.int (0 : Int32)) := Arv.set Ar6_ qk6_ Sz6_ Nn6_ Hh6_ Gg6_ (fits_nar_byte _) W7_ 2 rfl (Nat.le_of_ble_eq_true rfl)
  have K7_ := K5_.wr W7_ (Or.inr sz_b1_)
  have N7_ := Fr.snoc X7_ N5_ ge_b1_
  refine own_fin st7_ ?_
  show own_Fin pP eE below _ (T7_.setTop (mkF mM 39 #[.val (.int p1), .val (.int p2), .val (.int p3), .val (.int p4), .val (.int nv), .val (.ref b1_), .unset, .unset, .unset, .unset, .unset] []))
  refine own_fin (b := T7_.setTop (mkF mM 47 #[.val (.int p1), .val (.int p2), .val (.int p3), .val (.int p4), .val (.int nv), .val (.ref b1_), .unset, .unset, .unset, .unset, .unset] [(.int (((p2.toUInt32 >>> ((24 : Int32) &&& 31).toUInt32).toInt32).toInt8.toInt32)), (.int (3 : Int32)), (.ref b1_)])) (fun tT kK => ?_) ?_
  · show Steps pP.tables eE below (T7_.setTop (mkF mM 39 #[.val (.int p1), .val (.int p2), .val (.int p3), .val (.int p4), .val (.int nv), .val (.ref b1_), .unset, .unset, .unset, .unset, .unset] [])) tT
    refine XS.aload X7_.here hx rfl (Jvm.hb hby at_39) rfl rfl ?_
    show Steps pP.tables eE below (T7_.setTop (mkF mM 41 #[.val (.int p1), .val (.int p2), .val (.int p3), .val (.int p4), .val (.int nv), .val (.ref b1_), .unset, .unset, .unset, .unset, .unset] [(.ref b1_)])) tT
    refine XS.iconst X7_.here hx rfl (Jvm.hb hby at_41) ?_
    show Steps pP.tables eE below (T7_.setTop (mkF mM 42 #[.val (.int p1), .val (.int p2), .val (.int p3), .val (.int p4), .val (.int nv), .val (.ref b1_), .unset, .unset, .unset, .unset, .unset] [(.int (3 : Int32)), (.ref b1_)])) tT
    refine XS.iloadN X7_.here hx rfl (Jvm.hb hby at_42) rfl ?_
    show Steps pP.tables eE below (T7_.setTop (mkF mM 43 #[.val (.int p1), .val (.int p2), .val (.int p3), .val (.int p4), .val (.int nv), .val (.ref b1_), .unset, .unset, .unset, .unset, .unset] [(.int p2), (.int (3 : Int32)), (.ref b1_)])) tT
    refine XS.bipush X7_.here hx rfl (Jvm.hb hby at_43) ?_
    show Steps pP.tables eE below (T7_.setTop (mkF mM 45 #[.val (.int p1), .val (.int p2), .val (.int p3), .val (.int p4), .val (.int nv), .val (.ref b1_), .unset, .unset, .unset, .unset, .unset] [(.int (24 : Int32)), (.int p2), (.int (3 : Int32)), (.ref b1_)])) tT
    refine XS.iushr X7_.here hx rfl (Jvm.hb hby at_45) rfl ?_
    show Steps pP.tables eE below (T7_.setTop (mkF mM 46 #[.val (.int p1), .val (.int p2), .val (.int p3), .val (.int p4), .val (.int nv), .val (.ref b1_), .unset, .unset, .unset, .unset, .unset] [(.int ((p2.toUInt32 >>> ((24 : Int32) &&& 31).toUInt32).toInt32)), (.int (3 : Int32)), (.ref b1_)])) tT
    refine XS.i2b X7_.here hx rfl (Jvm.hb hby at_46) rfl ?_
    show Steps pP.tables eE below (T7_.setTop (mkF mM 47 #[.val (.int p1), .val (.int p2), .val (.int p3), .val (.int p4), .val (.int nv), .val (.ref b1_), .unset, .unset, .unset, .unset, .unset] [(.int (((p2.toUInt32 >>> ((24 : Int32) &&& 31).toUInt32).toInt32).toInt8.toInt32)), (.int (3 : Int32)), (.ref b1_)])) tT
    exact kK
  obtain ⟨cl8_, Ar8_, qk8_, Sz8_, Nn8_, Hh8_, Gg8_⟩ := id V7_
  have hin9_ : ¬ ((3 : Int32) < 0 ∨ cl8_.slots.size ≤ ((3 : Int32)).toNatClampNeg) := inb_of Sz8_ ⟨by decide, by decide⟩
  obtain ⟨T9_, h9_, X9_, e9_, W9_, st9_⟩ := stB X7_ hx hZ e7_ Ar8_ (j := (3 : Int32)) hin9_ (g := (mkF mM 47 #[.val (.int p1), .val (.int p2), .val (.int p3), .val (.int p4), .val (.int nv), .val (.ref b1_), .unset, .unset, .unset, .unset, .unset] [(.int (((p2.toUInt32 >>> ((24 : Int32) &&& 31).toUInt32).toInt32).toInt8.toInt32)), (.int (3 : Int32)), (.ref b1_)])) rfl rfl (Jvm.hb hby at_47)
  have V9_ : Arv Z h9_ b1_ k1_ .byte (8 : Int32) [(.int (nar .byte (p2.toInt8.toInt32))), (.int (nar .byte (((p2.toUInt32 >>> ((8 : Int32) &&& 31).toUInt32).toInt32).toInt8.toInt32))), (.int (nar .byte (((p2.toUInt32 >>> ((16 : Int32) &&& 31).toUInt32).toInt32).toInt8.toInt32))), (.int (nar .byte (((p2.toUInt32 >>> ((24 : Int32) &&& 31).toUInt32).toInt32).toInt8.toInt32))), (.int (0 : Int32)), (.int (0 : Int32)), (.int (0 : Int32)), (.int (0 : Int32))] (.int (0 : Int32)) := Arv.set Ar8_ qk8_ Sz8_ Nn8_ Hh8_ Gg8_ (fits_nar_byte _) W9_ 3 rfl (Nat.le_of_ble_eq_true rfl)
  have K9_ := K7_.wr W9_ (Or.inr sz_b1_)
  have N9_ := Fr.snoc X9_ N7_ ge_b1_
  refine own_fin st9_ ?_
  show own_Fin pP eE below _ (T9_.setTop (mkF mM 48 #[.val (.int p1), .val (.int p2), .val (.int p3), .val (.int p4), .val (.int nv), .val (.ref b1_), .unset, .unset, .unset, .unset, .unset] []))
  refine own_fin (b := T9_.setTop (mkF mM 53 #[.val (.int p1), .val (.int p2), .val (.int p3), .val (.int p4), .val (.int nv), .val (.ref b1_), .unset, .unset, .unset, .unset, .unset] [(.int (p3.toInt8.toInt32)), (.int (4 : Int32)), (.ref b1_)])) (fun tT kK => ?_) ?_
  · show Steps pP.tables eE below (T9_.setTop (mkF mM 48 #[.val (.int p1), .val (.int p2), .val (.int p3), .val (.int p4), .val (.int nv), .val (.ref b1_), .unset, .unset, .unset, .unset, .unset] [])) tT
    refine XS.aload X9_.here hx rfl (Jvm.hb hby at_48) rfl rfl ?_
    show Steps pP.tables eE below (T9_.setTop (mkF mM 50 #[.val (.int p1), .val (.int p2), .val (.int p3), .val (.int p4), .val (.int nv), .val (.ref b1_), .unset, .unset, .unset, .unset, .unset] [(.ref b1_)])) tT
    refine XS.iconst X9_.here hx rfl (Jvm.hb hby at_50) ?_
    show Steps pP.tables eE below (T9_.setTop (mkF mM 51 #[.val (.int p1), .val (.int p2), .val (.int p3), .val (.int p4), .val (.int nv), .val (.ref b1_), .unset, .unset, .unset, .unset, .unset] [(.int (4 : Int32)), (.ref b1_)])) tT
    refine XS.iloadN X9_.here hx rfl (Jvm.hb hby at_51) rfl ?_
    show Steps pP.tables eE below (T9_.setTop (mkF mM 52 #[.val (.int p1), .val (.int p2), .val (.int p3), .val (.int p4), .val (.int nv), .val (.ref b1_), .unset, .unset, .unset, .unset, .unset] [(.int p3), (.int (4 : Int32)), (.ref b1_)])) tT
    refine XS.i2b X9_.here hx rfl (Jvm.hb hby at_52) rfl ?_
    show Steps pP.tables eE below (T9_.setTop (mkF mM 53 #[.val (.int p1), .val (.int p2), .val (.int p3), .val (.int p4), .val (.int nv), .val (.ref b1_), .unset, .unset, .unset, .unset, .unset] [(.int (p3.toInt8.toInt32)), (.int (4 : Int32)), (.ref b1_)])) tT
    exact kK
  obtain ⟨cl10_, Ar10_, qk10_, Sz10_, Nn10_, Hh10_, Gg10_⟩ := id V9_
  have hin11_ : ¬ ((4 : Int32) < 0 ∨ cl10_.slots.size ≤ ((4 : Int32)).toNatClampNeg) := inb_of Sz10_ ⟨by decide, by decide⟩
  obtain ⟨T11_, h11_, X11_, e11_, W11_, st11_⟩ := stB X9_ hx hZ e9_ Ar10_ (j := (4 : Int32)) hin11_ (g := (mkF mM 53 #[.val (.int p1), .val (.int p2), .val (.int p3), .val (.int p4), .val (.int nv), .val (.ref b1_), .unset, .unset, .unset, .unset, .unset] [(.int (p3.toInt8.toInt32)), (.int (4 : Int32)), (.ref b1_)])) rfl rfl (Jvm.hb hby at_53)
  have V11_ : Arv Z h11_ b1_ k1_ .byte (8 : Int32) [(.int (nar .byte (p2.toInt8.toInt32))), (.int (nar .byte (((p2.toUInt32 >>> ((8 : Int32) &&& 31).toUInt32).toInt32).toInt8.toInt32))), (.int (nar .byte (((p2.toUInt32 >>> ((16 : Int32) &&& 31).toUInt32).toInt32).toInt8.toInt32))), (.int (nar .byte (((p2.toUInt32 >>> ((24 : Int32) &&& 31).toUInt32).toInt32).toInt8.toInt32))), (.int (nar .byte (p3.toInt8.toInt32))), (.int (0 : Int32)), (.int (0 : Int32)), (.int (0 : Int32))] (.int (0 : Int32)) := Arv.set Ar10_ qk10_ Sz10_ Nn10_ Hh10_ Gg10_ (fits_nar_byte _) W11_ 4 rfl (Nat.le_of_ble_eq_true rfl)
  have K11_ := K9_.wr W11_ (Or.inr sz_b1_)
  have N11_ := Fr.snoc X11_ N9_ ge_b1_
  refine own_fin st11_ ?_
  show own_Fin pP eE below _ (T11_.setTop (mkF mM 54 #[.val (.int p1), .val (.int p2), .val (.int p3), .val (.int p4), .val (.int nv), .val (.ref b1_), .unset, .unset, .unset, .unset, .unset] []))
  refine own_fin (b := T11_.setTop (mkF mM 62 #[.val (.int p1), .val (.int p2), .val (.int p3), .val (.int p4), .val (.int nv), .val (.ref b1_), .unset, .unset, .unset, .unset, .unset] [(.int (((p3.toUInt32 >>> ((8 : Int32) &&& 31).toUInt32).toInt32).toInt8.toInt32)), (.int (5 : Int32)), (.ref b1_)])) (fun tT kK => ?_) ?_
  · show Steps pP.tables eE below (T11_.setTop (mkF mM 54 #[.val (.int p1), .val (.int p2), .val (.int p3), .val (.int p4), .val (.int nv), .val (.ref b1_), .unset, .unset, .unset, .unset, .unset] [])) tT
    refine XS.aload X11_.here hx rfl (Jvm.hb hby at_54) rfl rfl ?_
    show Steps pP.tables eE below (T11_.setTop (mkF mM 56 #[.val (.int p1), .val (.int p2), .val (.int p3), .val (.int p4), .val (.int nv), .val (.ref b1_), .unset, .unset, .unset, .unset, .unset] [(.ref b1_)])) tT
    refine XS.iconst X11_.here hx rfl (Jvm.hb hby at_56) ?_
    show Steps pP.tables eE below (T11_.setTop (mkF mM 57 #[.val (.int p1), .val (.int p2), .val (.int p3), .val (.int p4), .val (.int nv), .val (.ref b1_), .unset, .unset, .unset, .unset, .unset] [(.int (5 : Int32)), (.ref b1_)])) tT
    refine XS.iloadN X11_.here hx rfl (Jvm.hb hby at_57) rfl ?_
    show Steps pP.tables eE below (T11_.setTop (mkF mM 58 #[.val (.int p1), .val (.int p2), .val (.int p3), .val (.int p4), .val (.int nv), .val (.ref b1_), .unset, .unset, .unset, .unset, .unset] [(.int p3), (.int (5 : Int32)), (.ref b1_)])) tT
    refine XS.bipush X11_.here hx rfl (Jvm.hb hby at_58) ?_
    show Steps pP.tables eE below (T11_.setTop (mkF mM 60 #[.val (.int p1), .val (.int p2), .val (.int p3), .val (.int p4), .val (.int nv), .val (.ref b1_), .unset, .unset, .unset, .unset, .unset] [(.int (8 : Int32)), (.int p3), (.int (5 : Int32)), (.ref b1_)])) tT
    refine XS.iushr X11_.here hx rfl (Jvm.hb hby at_60) rfl ?_
    show Steps pP.tables eE below (T11_.setTop (mkF mM 61 #[.val (.int p1), .val (.int p2), .val (.int p3), .val (.int p4), .val (.int nv), .val (.ref b1_), .unset, .unset, .unset, .unset, .unset] [(.int ((p3.toUInt32 >>> ((8 : Int32) &&& 31).toUInt32).toInt32)), (.int (5 : Int32)), (.ref b1_)])) tT
    refine XS.i2b X11_.here hx rfl (Jvm.hb hby at_61) rfl ?_
    show Steps pP.tables eE below (T11_.setTop (mkF mM 62 #[.val (.int p1), .val (.int p2), .val (.int p3), .val (.int p4), .val (.int nv), .val (.ref b1_), .unset, .unset, .unset, .unset, .unset] [(.int (((p3.toUInt32 >>> ((8 : Int32) &&& 31).toUInt32).toInt32).toInt8.toInt32)), (.int (5 : Int32)), (.ref b1_)])) tT
    exact kK
  obtain ⟨cl12_, Ar12_, qk12_, Sz12_, Nn12_, Hh12_, Gg12_⟩ := id V11_
  have hin13_ : ¬ ((5 : Int32) < 0 ∨ cl12_.slots.size ≤ ((5 : Int32)).toNatClampNeg) := inb_of Sz12_ ⟨by decide, by decide⟩
  obtain ⟨T13_, h13_, X13_, e13_, W13_, st13_⟩ := stB X11_ hx hZ e11_ Ar12_ (j := (5 : Int32)) hin13_ (g := (mkF mM 62 #[.val (.int p1), .val (.int p2), .val (.int p3), .val (.int p4), .val (.int nv), .val (.ref b1_), .unset, .unset, .unset, .unset, .unset] [(.int (((p3.toUInt32 >>> ((8 : Int32) &&& 31).toUInt32).toInt32).toInt8.toInt32)), (.int (5 : Int32)), (.ref b1_)])) rfl rfl (Jvm.hb hby at_62)
  have V13_ : Arv Z h13_ b1_ k1_ .byte (8 : Int32) [(.int (nar .byte (p2.toInt8.toInt32))), (.int (nar .byte (((p2.toUInt32 >>> ((8 : Int32) &&& 31).toUInt32).toInt32).toInt8.toInt32))), (.int (nar .byte (((p2.toUInt32 >>> ((16 : Int32) &&& 31).toUInt32).toInt32).toInt8.toInt32))), (.int (nar .byte (((p2.toUInt32 >>> ((24 : Int32) &&& 31).toUInt32).toInt32).toInt8.toInt32))), (.int (nar .byte (p3.toInt8.toInt32))), (.int (nar .byte (((p3.toUInt32 >>> ((8 : Int32) &&& 31).toUInt32).toInt32).toInt8.toInt32))), (.int (0 : Int32)), (.int (0 : Int32))] (.int (0 : Int32)) := Arv.set Ar12_ qk12_ Sz12_ Nn12_ Hh12_ Gg12_ (fits_nar_byte _) W13_ 5 rfl (Nat.le_of_ble_eq_true rfl)
  have K13_ := K11_.wr W13_ (Or.inr sz_b1_)
  have N13_ := Fr.snoc X13_ N11_ ge_b1_
  refine own_fin st13_ ?_
  show own_Fin pP eE below _ (T13_.setTop (mkF mM 63 #[.val (.int p1), .val (.int p2), .val (.int p3), .val (.int p4), .val (.int nv), .val (.ref b1_), .unset, .unset, .unset, .unset, .unset] []))
  refine own_fin (b := T13_.setTop (mkF mM 72 #[.val (.int p1), .val (.int p2), .val (.int p3), .val (.int p4), .val (.int nv), .val (.ref b1_), .unset, .unset, .unset, .unset, .unset] [(.int (((p3.toUInt32 >>> ((16 : Int32) &&& 31).toUInt32).toInt32).toInt8.toInt32)), (.int (6 : Int32)), (.ref b1_)])) (fun tT kK => ?_) ?_
  · show Steps pP.tables eE below (T13_.setTop (mkF mM 63 #[.val (.int p1), .val (.int p2), .val (.int p3), .val (.int p4), .val (.int nv), .val (.ref b1_), .unset, .unset, .unset, .unset, .unset] [])) tT
    refine XS.aload X13_.here hx rfl (Jvm.hb hby at_63) rfl rfl ?_
    show Steps pP.tables eE below (T13_.setTop (mkF mM 65 #[.val (.int p1), .val (.int p2), .val (.int p3), .val (.int p4), .val (.int nv), .val (.ref b1_), .unset, .unset, .unset, .unset, .unset] [(.ref b1_)])) tT
    refine XS.bipush X13_.here hx rfl (Jvm.hb hby at_65) ?_
    show Steps pP.tables eE below (T13_.setTop (mkF mM 67 #[.val (.int p1), .val (.int p2), .val (.int p3), .val (.int p4), .val (.int nv), .val (.ref b1_), .unset, .unset, .unset, .unset, .unset] [(.int (6 : Int32)), (.ref b1_)])) tT
    refine XS.iloadN X13_.here hx rfl (Jvm.hb hby at_67) rfl ?_
    show Steps pP.tables eE below (T13_.setTop (mkF mM 68 #[.val (.int p1), .val (.int p2), .val (.int p3), .val (.int p4), .val (.int nv), .val (.ref b1_), .unset, .unset, .unset, .unset, .unset] [(.int p3), (.int (6 : Int32)), (.ref b1_)])) tT
    refine XS.bipush X13_.here hx rfl (Jvm.hb hby at_68) ?_
    show Steps pP.tables eE below (T13_.setTop (mkF mM 70 #[.val (.int p1), .val (.int p2), .val (.int p3), .val (.int p4), .val (.int nv), .val (.ref b1_), .unset, .unset, .unset, .unset, .unset] [(.int (16 : Int32)), (.int p3), (.int (6 : Int32)), (.ref b1_)])) tT
    refine XS.iushr X13_.here hx rfl (Jvm.hb hby at_70) rfl ?_
    show Steps pP.tables eE below (T13_.setTop (mkF mM 71 #[.val (.int p1), .val (.int p2), .val (.int p3), .val (.int p4), .val (.int nv), .val (.ref b1_), .unset, .unset, .unset, .unset, .unset] [(.int ((p3.toUInt32 >>> ((16 : Int32) &&& 31).toUInt32).toInt32)), (.int (6 : Int32)), (.ref b1_)])) tT
    refine XS.i2b X13_.here hx rfl (Jvm.hb hby at_71) rfl ?_
    show Steps pP.tables eE below (T13_.setTop (mkF mM 72 #[.val (.int p1), .val (.int p2), .val (.int p3), .val (.int p4), .val (.int nv), .val (.ref b1_), .unset, .unset, .unset, .unset, .unset] [(.int (((p3.toUInt32 >>> ((16 : Int32) &&& 31).toUInt32).toInt32).toInt8.toInt32)), (.int (6 : Int32)), (.ref b1_)])) tT
    exact kK
  obtain ⟨cl14_, Ar14_, qk14_, Sz14_, Nn14_, Hh14_, Gg14_⟩ := id V13_
  have hin15_ : ¬ ((6 : Int32) < 0 ∨ cl14_.slots.size ≤ ((6 : Int32)).toNatClampNeg) := inb_of Sz14_ ⟨by decide, by decide⟩
  obtain ⟨T15_, h15_, X15_, e15_, W15_, st15_⟩ := stB X13_ hx hZ e13_ Ar14_ (j := (6 : Int32)) hin15_ (g := (mkF mM 72 #[.val (.int p1), .val (.int p2), .val (.int p3), .val (.int p4), .val (.int nv), .val (.ref b1_), .unset, .unset, .unset, .unset, .unset] [(.int (((p3.toUInt32 >>> ((16 : Int32) &&& 31).toUInt32).toInt32).toInt8.toInt32)), (.int (6 : Int32)), (.ref b1_)])) rfl rfl (Jvm.hb hby at_72)
  have V15_ : Arv Z h15_ b1_ k1_ .byte (8 : Int32) [(.int (nar .byte (p2.toInt8.toInt32))), (.int (nar .byte (((p2.toUInt32 >>> ((8 : Int32) &&& 31).toUInt32).toInt32).toInt8.toInt32))), (.int (nar .byte (((p2.toUInt32 >>> ((16 : Int32) &&& 31).toUInt32).toInt32).toInt8.toInt32))), (.int (nar .byte (((p2.toUInt32 >>> ((24 : Int32) &&& 31).toUInt32).toInt32).toInt8.toInt32))), (.int (nar .byte (p3.toInt8.toInt32))), (.int (nar .byte (((p3.toUInt32 >>> ((8 : Int32) &&& 31).toUInt32).toInt32).toInt8.toInt32))), (.int (nar .byte (((p3.toUInt32 >>> ((16 : Int32) &&& 31).toUInt32).toInt32).toInt8.toInt32))), (.int (0 : Int32))] (.int (0 : Int32)) := Arv.set Ar14_ qk14_ Sz14_ Nn14_ Hh14_ Gg14_ (fits_nar_byte _) W15_ 6 rfl (Nat.le_of_ble_eq_true rfl)
  have K15_ := K13_.wr W15_ (Or.inr sz_b1_)
  have N15_ := Fr.snoc X15_ N13_ ge_b1_
  refine own_fin st15_ ?_
  show own_Fin pP eE below _ (T15_.setTop (mkF mM 73 #[.val (.int p1), .val (.int p2), .val (.int p3), .val (.int p4), .val (.int nv), .val (.ref b1_), .unset, .unset, .unset, .unset, .unset] []))
  refine own_fin (b := T15_.setTop (mkF mM 82 #[.val (.int p1), .val (.int p2), .val (.int p3), .val (.int p4), .val (.int nv), .val (.ref b1_), .unset, .unset, .unset, .unset, .unset] [(.int (((p3.toUInt32 >>> ((24 : Int32) &&& 31).toUInt32).toInt32).toInt8.toInt32)), (.int (7 : Int32)), (.ref b1_)])) (fun tT kK => ?_) ?_
  · show Steps pP.tables eE below (T15_.setTop (mkF mM 73 #[.val (.int p1), .val (.int p2), .val (.int p3), .val (.int p4), .val (.int nv), .val (.ref b1_), .unset, .unset, .unset, .unset, .unset] [])) tT
    refine XS.aload X15_.here hx rfl (Jvm.hb hby at_73) rfl rfl ?_
    show Steps pP.tables eE below (T15_.setTop (mkF mM 75 #[.val (.int p1), .val (.int p2), .val (.int p3), .val (.int p4), .val (.int nv), .val (.ref b1_), .unset, .unset, .unset, .unset, .unset] [(.ref b1_)])) tT
    refine XS.bipush X15_.here hx rfl (Jvm.hb hby at_75) ?_
    show Steps pP.tables eE below (T15_.setTop (mkF mM 77 #[.val (.int p1), .val (.int p2), .val (.int p3), .val (.int p4), .val (.int nv), .val (.ref b1_), .unset, .unset, .unset, .unset, .unset] [(.int (7 : Int32)), (.ref b1_)])) tT
    refine XS.iloadN X15_.here hx rfl (Jvm.hb hby at_77) rfl ?_
    show Steps pP.tables eE below (T15_.setTop (mkF mM 78 #[.val (.int p1), .val (.int p2), .val (.int p3), .val (.int p4), .val (.int nv), .val (.ref b1_), .unset, .unset, .unset, .unset, .unset] [(.int p3), (.int (7 : Int32)), (.ref b1_)])) tT
    refine XS.bipush X15_.here hx rfl (Jvm.hb hby at_78) ?_
    show Steps pP.tables eE below (T15_.setTop (mkF mM 80 #[.val (.int p1), .val (.int p2), .val (.int p3), .val (.int p4), .val (.int nv), .val (.ref b1_), .unset, .unset, .unset, .unset, .unset] [(.int (24 : Int32)), (.int p3), (.int (7 : Int32)), (.ref b1_)])) tT
    refine XS.iushr X15_.here hx rfl (Jvm.hb hby at_80) rfl ?_
    show Steps pP.tables eE below (T15_.setTop (mkF mM 81 #[.val (.int p1), .val (.int p2), .val (.int p3), .val (.int p4), .val (.int nv), .val (.ref b1_), .unset, .unset, .unset, .unset, .unset] [(.int ((p3.toUInt32 >>> ((24 : Int32) &&& 31).toUInt32).toInt32)), (.int (7 : Int32)), (.ref b1_)])) tT
    refine XS.i2b X15_.here hx rfl (Jvm.hb hby at_81) rfl ?_
    show Steps pP.tables eE below (T15_.setTop (mkF mM 82 #[.val (.int p1), .val (.int p2), .val (.int p3), .val (.int p4), .val (.int nv), .val (.ref b1_), .unset, .unset, .unset, .unset, .unset] [(.int (((p3.toUInt32 >>> ((24 : Int32) &&& 31).toUInt32).toInt32).toInt8.toInt32)), (.int (7 : Int32)), (.ref b1_)])) tT
    exact kK
  obtain ⟨cl16_, Ar16_, qk16_, Sz16_, Nn16_, Hh16_, Gg16_⟩ := id V15_
  have hin17_ : ¬ ((7 : Int32) < 0 ∨ cl16_.slots.size ≤ ((7 : Int32)).toNatClampNeg) := inb_of Sz16_ ⟨by decide, by decide⟩
  obtain ⟨T17_, h17_, X17_, e17_, W17_, st17_⟩ := stB X15_ hx hZ e15_ Ar16_ (j := (7 : Int32)) hin17_ (g := (mkF mM 82 #[.val (.int p1), .val (.int p2), .val (.int p3), .val (.int p4), .val (.int nv), .val (.ref b1_), .unset, .unset, .unset, .unset, .unset] [(.int (((p3.toUInt32 >>> ((24 : Int32) &&& 31).toUInt32).toInt32).toInt8.toInt32)), (.int (7 : Int32)), (.ref b1_)])) rfl rfl (Jvm.hb hby at_82)
  have V17_ : Arv Z h17_ b1_ k1_ .byte (8 : Int32) [(.int (nar .byte (p2.toInt8.toInt32))), (.int (nar .byte (((p2.toUInt32 >>> ((8 : Int32) &&& 31).toUInt32).toInt32).toInt8.toInt32))), (.int (nar .byte (((p2.toUInt32 >>> ((16 : Int32) &&& 31).toUInt32).toInt32).toInt8.toInt32))), (.int (nar .byte (((p2.toUInt32 >>> ((24 : Int32) &&& 31).toUInt32).toInt32).toInt8.toInt32))), (.int (nar .byte (p3.toInt8.toInt32))), (.int (nar .byte (((p3.toUInt32 >>> ((8 : Int32) &&& 31).toUInt32).toInt32).toInt8.toInt32))), (.int (nar .byte (((p3.toUInt32 >>> ((16 : Int32) &&& 31).toUInt32).toInt32).toInt8.toInt32))), (.int (nar .byte (((p3.toUInt32 >>> ((24 : Int32) &&& 31).toUInt32).toInt32).toInt8.toInt32)))] (.int (0 : Int32)) := Arv.set Ar16_ qk16_ Sz16_ Nn16_ Hh16_ Gg16_ (fits_nar_byte _) W17_ 7 rfl (Nat.le_of_ble_eq_true rfl)
  have K17_ := K15_.wr W17_ (Or.inr sz_b1_)
  have N17_ := Fr.snoc X17_ N15_ ge_b1_
  refine own_fin st17_ ?_
  show own_Fin pP eE below _ (T17_.setTop (mkF mM 83 #[.val (.int p1), .val (.int p2), .val (.int p3), .val (.int p4), .val (.int nv), .val (.ref b1_), .unset, .unset, .unset, .unset, .unset] []))
  obtain ⟨x0, hx0⟩ : ∃ z, z = (nar .byte (p2.toInt8.toInt32)) := ⟨_, rfl⟩
  have hy0 : nar .byte x0 = x0 := by rw [hx0]; exact own_nb p2
  rw [← hx0] at V17_
  obtain ⟨x1, hx1⟩ : ∃ z, z = (nar .byte (((p2.toUInt32 >>> ((8 : Int32) &&& 31).toUInt32).toInt32).toInt8.toInt32)) := ⟨_, rfl⟩
  have hy1 : nar .byte x1 = x1 := by rw [hx1]; exact own_nb ((p2.toUInt32 >>> ((8 : Int32) &&& 31).toUInt32).toInt32)
  rw [← hx1] at V17_
  obtain ⟨x2, hx2⟩ : ∃ z, z = (nar .byte (((p2.toUInt32 >>> ((16 : Int32) &&& 31).toUInt32).toInt32).toInt8.toInt32)) := ⟨_, rfl⟩
  have hy2 : nar .byte x2 = x2 := by rw [hx2]; exact own_nb ((p2.toUInt32 >>> ((16 : Int32) &&& 31).toUInt32).toInt32)
  rw [← hx2] at V17_
  obtain ⟨x3, hx3⟩ : ∃ z, z = (nar .byte (((p2.toUInt32 >>> ((24 : Int32) &&& 31).toUInt32).toInt32).toInt8.toInt32)) := ⟨_, rfl⟩
  have hy3 : nar .byte x3 = x3 := by rw [hx3]; exact own_nb ((p2.toUInt32 >>> ((24 : Int32) &&& 31).toUInt32).toInt32)
  rw [← hx3] at V17_
  obtain ⟨x4, hx4⟩ : ∃ z, z = (nar .byte (p3.toInt8.toInt32)) := ⟨_, rfl⟩
  have hy4 : nar .byte x4 = x4 := by rw [hx4]; exact own_nb p3
  rw [← hx4] at V17_
  obtain ⟨x5, hx5⟩ : ∃ z, z = (nar .byte (((p3.toUInt32 >>> ((8 : Int32) &&& 31).toUInt32).toInt32).toInt8.toInt32)) := ⟨_, rfl⟩
  have hy5 : nar .byte x5 = x5 := by rw [hx5]; exact own_nb ((p3.toUInt32 >>> ((8 : Int32) &&& 31).toUInt32).toInt32)
  rw [← hx5] at V17_
  obtain ⟨x6, hx6⟩ : ∃ z, z = (nar .byte (((p3.toUInt32 >>> ((16 : Int32) &&& 31).toUInt32).toInt32).toInt8.toInt32)) := ⟨_, rfl⟩
  have hy6 : nar .byte x6 = x6 := by rw [hx6]; exact own_nb ((p3.toUInt32 >>> ((16 : Int32) &&& 31).toUInt32).toInt32)
  rw [← hx6] at V17_
  obtain ⟨x7, hx7⟩ : ∃ z, z = (nar .byte (((p3.toUInt32 >>> ((24 : Int32) &&& 31).toUInt32).toInt32).toInt8.toInt32)) := ⟨_, rfl⟩
  have hy7 : nar .byte x7 = x7 := by rw [hx7]; exact own_nb ((p3.toUInt32 >>> ((24 : Int32) &&& 31).toUInt32).toInt32)
  rw [← hx7] at V17_
  rcases hn9 with rfl | rfl | rfl | rfl | rfl | rfl | rfl | rfl | rfl
  · show own_Fin pP eE below _ (T17_.setTop (mkF mM 83 #[.val (.int p1), .val (.int p2), .val (.int p3), .val (.int p4), .val (.int (0 : Int32)), .val (.ref b1_), .unset, .unset, .unset, .unset, .unset] []))
    refine own_fin (b := T17_.setTop (mkF mM 85 #[.val (.int p1), .val (.int p2), .val (.int p3), .val (.int p4), .val (.int (0 : Int32)), .val (.ref b1_), .unset, .unset, .unset, .unset, .unset] [(.int (0 : Int32))])) (fun tT kK => ?_) ?_
    · show Steps pP.tables eE below (T17_.setTop (mkF mM 83 #[.val (.int p1), .val (.int p2), .val (.int p3), .val (.int p4), .val (.int (0 : Int32)), .val (.ref b1_), .unset, .unset, .unset, .unset, .unset] [])) tT
      refine XS.iload X17_.here hx rfl (Jvm.hb hby at_83) rfl ?_
      show Steps pP.tables eE below (T17_.setTop (mkF mM 85 #[.val (.int p1), .val (.int p2), .val (.int p3), .val (.int p4), .val (.int (0 : Int32)), .val (.ref b1_), .unset, .unset, .unset, .unset, .unset] [(.int (0 : Int32))])) tT
      exact kK
    obtain ⟨T18_, h18_, k18_, X18_, e18_, E18_, A18_, st18_⟩ := newP X17_ hx hZ (hw _ (List.mem_of_getElem? (i := 0) rfl)) e17_ (g := (mkF mM 85 #[.val (.int p1), .val (.int p2), .val (.int p3), .val (.int p4), .val (.int (0 : Int32)), .val (.ref b1_), .unset, .unset, .unset, .unset, .unset] [(.int (0 : Int32))])) rfl (Jvm.hb hby at_85) rfl (by decide) (cap := 0) (by decide) (by decide) (by decide) (by decide)
    obtain ⟨b18_, g18_⟩ : ∃ z, z = h17_.size := ⟨_, rfl⟩
    rw [← g18_] at A18_ st18_
    have sz_b18_ : h0.size ≤ b18_ := Nat.le_trans K17_.1 (Nat.le_of_eq g18_.symm)
    have ge_b18_ : n0 ≤ b18_ := Nat.le_trans Z0 sz_b18_
    have ne19_ : b1_ ≠ b18_ := Nat.ne_of_lt (Nat.lt_of_lt_of_le V17_.lt (Nat.le_of_eq g18_.symm))
    have fc20_ := V17_.ext E18_
    have K18_ := K17_.ext E18_
    have V18_ : Arv Z h18_ b18_ k18_ .byte (0 : Int32) [] (.int (0 : Int32)) := Arv.new A18_ (by decide)
    refine own_fin st18_ ?_
    show own_Fin pP eE below _ (T18_.setTop (mkF mM 87 #[.val (.int p1), .val (.int p2), .val (.int p3), .val (.int p4), .val (.int (0 : Int32)), .val (.ref b1_), .unset, .unset, .unset, .unset, .unset] [(.ref b18_)]))
    refine own_fin (b := T18_.setTop (mkF mM 213 #[.val (.int p1), .val (.int p2), .val (.int p3), .val (.int p4), .val (.int (0 : Int32)), .val (.ref b1_), .val (.ref b18_), .val (.int (p4 &&& (255 : Int32))), .unset, .unset, .unset] [])) (fun tT kK => ?_) ?_
    · show Steps pP.tables eE below (T18_.setTop (mkF mM 87 #[.val (.int p1), .val (.int p2), .val (.int p3), .val (.int p4), .val (.int (0 : Int32)), .val (.ref b1_), .unset, .unset, .unset, .unset, .unset] [(.ref b18_)])) tT
      refine XS.astore X18_.here hx rfl (Jvm.hb hby at_87) rfl rfl (l' := #[.val (.int p1), .val (.int p2), .val (.int p3), .val (.int p4), .val (.int (0 : Int32)), .val (.ref b1_), .val (.ref b18_), .unset, .unset, .unset, .unset]) rfl ?_
      show Steps pP.tables eE below (T18_.setTop (mkF mM 89 #[.val (.int p1), .val (.int p2), .val (.int p3), .val (.int p4), .val (.int (0 : Int32)), .val (.ref b1_), .val (.ref b18_), .unset, .unset, .unset, .unset] [])) tT
      refine XS.iload X18_.here hx rfl (Jvm.hb hby at_89) rfl ?_
      show Steps pP.tables eE below (T18_.setTop (mkF mM 91 #[.val (.int p1), .val (.int p2), .val (.int p3), .val (.int p4), .val (.int (0 : Int32)), .val (.ref b1_), .val (.ref b18_), .unset, .unset, .unset, .unset] [(.int (0 : Int32))])) tT
      refine XS.ifYes X18_.here hx rfl (pc0 := 91) (pc' := 102) rfl (Jvm.hb hby at_91) rfl ((if0 _ _).trans (flt ((by decide) : ¬ ((0 : Int32) < (0 : Int32)))).2.2.2) (by decide) (by decide) ?_
      show Steps pP.tables eE below (T18_.setTop (mkF mM 102 #[.val (.int p1), .val (.int p2), .val (.int p3), .val (.int p4), .val (.int (0 : Int32)), .val (.ref b1_), .val (.ref b18_), .unset, .unset, .unset, .unset] [])) tT
      refine XS.iload X18_.here hx rfl (Jvm.hb hby at_102) rfl ?_
      show Steps pP.tables eE below (T18_.setTop (mkF mM 104 #[.val (.int p1), .val (.int p2), .val (.int p3), .val (.int p4), .val (.int (0 : Int32)), .val (.ref b1_), .val (.ref b18_), .unset, .unset, .unset, .unset] [(.int (0 : Int32))])) tT
      refine XS.iconst X18_.here hx rfl (Jvm.hb hby at_104) ?_
      show Steps pP.tables eE below (T18_.setTop (mkF mM 105 #[.val (.int p1), .val (.int p2), .val (.int p3), .val (.int p4), .val (.int (0 : Int32)), .val (.ref b1_), .val (.ref b18_), .unset, .unset, .unset, .unset] [(.int (1 : Int32)), (.int (0 : Int32))])) tT
      refine XS.icmpYes X18_.here hx rfl (pc0 := 105) (pc' := 116) rfl (Jvm.hb hby at_105) rfl (flt ((by decide) : ¬ ((1 : Int32) < (0 : Int32)))).2.2.2 (by decide) (by decide) ?_
      show Steps pP.tables eE below (T18_.setTop (mkF mM 116 #[.val (.int p1), .val (.int p2), .val (.int p3), .val (.int p4), .val (.int (0 : Int32)), .val (.ref b1_), .val (.ref b18_), .unset, .unset, .unset, .unset] [])) tT
      refine XS.iload X18_.here hx rfl (Jvm.hb hby at_116) rfl ?_
      show Steps pP.tables eE below (T18_.setTop (mkF mM 118 #[.val (.int p1), .val (.int p2), .val (.int p3), .val (.int p4), .val (.int (0 : Int32)), .val (.ref b1_), .val (.ref b18_), .unset, .unset, .unset, .unset] [(.int (0 : Int32))])) tT
      refine XS.iconst X18_.here hx rfl (Jvm.hb hby at_118) ?_
      show Steps pP.tables eE below (T18_.setTop (mkF mM 119 #[.val (.int p1), .val (.int p2), .val (.int p3), .val (.int p4), .val (.int (0 : Int32)), .val (.ref b1_), .val (.ref b18_), .unset, .unset, .unset, .unset] [(.int (2 : Int32)), (.int (0 : Int32))])) tT
      refine XS.icmpYes X18_.here hx rfl (pc0 := 119) (pc' := 130) rfl (Jvm.hb hby at_119) rfl (flt ((by decide) : ¬ ((2 : Int32) < (0 : Int32)))).2.2.2 (by decide) (by decide) ?_
      show Steps pP.tables eE below (T18_.setTop (mkF mM 130 #[.val (.int p1), .val (.int p2), .val (.int p3), .val (.int p4), .val (.int (0 : Int32)), .val (.ref b1_), .val (.ref b18_), .unset, .unset, .unset, .unset] [])) tT
      refine XS.iload X18_.here hx rfl (Jvm.hb hby at_130) rfl ?_
      show Steps pP.tables eE below (T18_.setTop (mkF mM 132 #[.val (.int p1), .val (.int p2), .val (.int p3), .val (.int p4), .val (.int (0 : Int32)), .val (.ref b1_), .val (.ref b18_), .unset, .unset, .unset, .unset] [(.int (0 : Int32))])) tT
      refine XS.iconst X18_.here hx rfl (Jvm.hb hby at_132) ?_
      show Steps pP.tables eE below (T18_.setTop (mkF mM 133 #[.val (.int p1), .val (.int p2), .val (.int p3), .val (.int p4), .val (.int (0 : Int32)), .val (.ref b1_), .val (.ref b18_), .unset, .unset, .unset, .unset] [(.int (3 : Int32)), (.int (0 : Int32))])) tT
      refine XS.icmpYes X18_.here hx rfl (pc0 := 133) (pc' := 144) rfl (Jvm.hb hby at_133) rfl (flt ((by decide) : ¬ ((3 : Int32) < (0 : Int32)))).2.2.2 (by decide) (by decide) ?_
      show Steps pP.tables eE below (T18_.setTop (mkF mM 144 #[.val (.int p1), .val (.int p2), .val (.int p3), .val (.int p4), .val (.int (0 : Int32)), .val (.ref b1_), .val (.ref b18_), .unset, .unset, .unset, .unset] [])) tT
      refine XS.iload X18_.here hx rfl (Jvm.hb hby at_144) rfl ?_
      show Steps pP.tables eE below (T18_.setTop (mkF mM 146 #[.val (.int p1), .val (.int p2), .val (.int p3), .val (.int p4), .val (.int (0 : Int32)), .val (.ref b1_), .val (.ref b18_), .unset, .unset, .unset, .unset] [(.int (0 : Int32))])) tT
      refine XS.iconst X18_.here hx rfl (Jvm.hb hby at_146) ?_
      show Steps pP.tables eE below (T18_.setTop (mkF mM 147 #[.val (.int p1), .val (.int p2), .val (.int p3), .val (.int p4), .val (.int (0 : Int32)), .val (.ref b1_), .val (.ref b18_), .unset, .unset, .unset, .unset] [(.int (4 : Int32)), (.int (0 : Int32))])) tT
      refine XS.icmpYes X18_.here hx rfl (pc0 := 147) (pc' := 158) rfl (Jvm.hb hby at_147) rfl (flt ((by decide) : ¬ ((4 : Int32) < (0 : Int32)))).2.2.2 (by decide) (by decide) ?_
      show Steps pP.tables eE below (T18_.setTop (mkF mM 158 #[.val (.int p1), .val (.int p2), .val (.int p3), .val (.int p4), .val (.int (0 : Int32)), .val (.ref b1_), .val (.ref b18_), .unset, .unset, .unset, .unset] [])) tT
      refine XS.iload X18_.here hx rfl (Jvm.hb hby at_158) rfl ?_
      show Steps pP.tables eE below (T18_.setTop (mkF mM 160 #[.val (.int p1), .val (.int p2), .val (.int p3), .val (.int p4), .val (.int (0 : Int32)), .val (.ref b1_), .val (.ref b18_), .unset, .unset, .unset, .unset] [(.int (0 : Int32))])) tT
      refine XS.iconst X18_.here hx rfl (Jvm.hb hby at_160) ?_
      show Steps pP.tables eE below (T18_.setTop (mkF mM 161 #[.val (.int p1), .val (.int p2), .val (.int p3), .val (.int p4), .val (.int (0 : Int32)), .val (.ref b1_), .val (.ref b18_), .unset, .unset, .unset, .unset] [(.int (5 : Int32)), (.int (0 : Int32))])) tT
      refine XS.icmpYes X18_.here hx rfl (pc0 := 161) (pc' := 172) rfl (Jvm.hb hby at_161) rfl (flt ((by decide) : ¬ ((5 : Int32) < (0 : Int32)))).2.2.2 (by decide) (by decide) ?_
      show Steps pP.tables eE below (T18_.setTop (mkF mM 172 #[.val (.int p1), .val (.int p2), .val (.int p3), .val (.int p4), .val (.int (0 : Int32)), .val (.ref b1_), .val (.ref b18_), .unset, .unset, .unset, .unset] [])) tT
      refine XS.iload X18_.here hx rfl (Jvm.hb hby at_172) rfl ?_
      show Steps pP.tables eE below (T18_.setTop (mkF mM 174 #[.val (.int p1), .val (.int p2), .val (.int p3), .val (.int p4), .val (.int (0 : Int32)), .val (.ref b1_), .val (.ref b18_), .unset, .unset, .unset, .unset] [(.int (0 : Int32))])) tT
      refine XS.bipush X18_.here hx rfl (Jvm.hb hby at_174) ?_
      show Steps pP.tables eE below (T18_.setTop (mkF mM 176 #[.val (.int p1), .val (.int p2), .val (.int p3), .val (.int p4), .val (.int (0 : Int32)), .val (.ref b1_), .val (.ref b18_), .unset, .unset, .unset, .unset] [(.int (6 : Int32)), (.int (0 : Int32))])) tT
      refine XS.icmpYes X18_.here hx rfl (pc0 := 176) (pc' := 189) rfl (Jvm.hb hby at_176) rfl (flt ((by decide) : ¬ ((6 : Int32) < (0 : Int32)))).2.2.2 (by decide) (by decide) ?_
      show Steps pP.tables eE below (T18_.setTop (mkF mM 189 #[.val (.int p1), .val (.int p2), .val (.int p3), .val (.int p4), .val (.int (0 : Int32)), .val (.ref b1_), .val (.ref b18_), .unset, .unset, .unset, .unset] [])) tT
      refine XS.iload X18_.here hx rfl (Jvm.hb hby at_189) rfl ?_
      show Steps pP.tables eE below (T18_.setTop (mkF mM 191 #[.val (.int p1), .val (.int p2), .val (.int p3), .val (.int p4), .val (.int (0 : Int32)), .val (.ref b1_), .val (.ref b18_), .unset, .unset, .unset, .unset] [(.int (0 : Int32))])) tT
      refine XS.bipush X18_.here hx rfl (Jvm.hb hby at_191) ?_
      show Steps pP.tables eE below (T18_.setTop (mkF mM 193 #[.val (.int p1), .val (.int p2), .val (.int p3), .val (.int p4), .val (.int (0 : Int32)), .val (.ref b1_), .val (.ref b18_), .unset, .unset, .unset, .unset] [(.int (7 : Int32)), (.int (0 : Int32))])) tT
      refine XS.icmpYes X18_.here hx rfl (pc0 := 193) (pc' := 206) rfl (Jvm.hb hby at_193) rfl (flt ((by decide) : ¬ ((7 : Int32) < (0 : Int32)))).2.2.2 (by decide) (by decide) ?_
      show Steps pP.tables eE below (T18_.setTop (mkF mM 206 #[.val (.int p1), .val (.int p2), .val (.int p3), .val (.int p4), .val (.int (0 : Int32)), .val (.ref b1_), .val (.ref b18_), .unset, .unset, .unset, .unset] [])) tT
      refine XS.iloadN X18_.here hx rfl (Jvm.hb hby at_206) rfl ?_
      show Steps pP.tables eE below (T18_.setTop (mkF mM 207 #[.val (.int p1), .val (.int p2), .val (.int p3), .val (.int p4), .val (.int (0 : Int32)), .val (.ref b1_), .val (.ref b18_), .unset, .unset, .unset, .unset] [(.int p4)])) tT
      refine XS.sipush X18_.here hx rfl (Jvm.hb hby at_207) ?_
      show Steps pP.tables eE below (T18_.setTop (mkF mM 210 #[.val (.int p1), .val (.int p2), .val (.int p3), .val (.int p4), .val (.int (0 : Int32)), .val (.ref b1_), .val (.ref b18_), .unset, .unset, .unset, .unset] [(.int (255 : Int32)), (.int p4)])) tT
      refine XS.iand X18_.here hx rfl (Jvm.hb hby at_210) rfl ?_
      show Steps pP.tables eE below (T18_.setTop (mkF mM 211 #[.val (.int p1), .val (.int p2), .val (.int p3), .val (.int p4), .val (.int (0 : Int32)), .val (.ref b1_), .val (.ref b18_), .unset, .unset, .unset, .unset] [(.int (p4 &&& (255 : Int32)))])) tT
      refine XS.istore X18_.here hx rfl (Jvm.hb hby at_211) rfl (l' := #[.val (.int p1), .val (.int p2), .val (.int p3), .val (.int p4), .val (.int (0 : Int32)), .val (.ref b1_), .val (.ref b18_), .val (.int (p4 &&& (255 : Int32))), .unset, .unset, .unset]) rfl ?_
      show Steps pP.tables eE below (T18_.setTop (mkF mM 213 #[.val (.int p1), .val (.int p2), .val (.int p3), .val (.int p4), .val (.int (0 : Int32)), .val (.ref b1_), .val (.ref b18_), .val (.int (p4 &&& (255 : Int32))), .unset, .unset, .unset] [])) tT
      exact kK
    show own_Fin pP eE below _ (T18_.setTop (mkF mM 213 #[.val (.int p1), .val (.int p2), .val (.int p3), .val (.int p4), .val (.int (0 : Int32)), .val (.ref b1_), .val (.ref b18_), .val (.int (p4 &&& (255 : Int32))), .unset, .unset, .unset] []))
    generalize hvq : (p4 &&& (255 : Int32)) = vq
    show own_Fin pP eE below _ (T18_.setTop (mkF mM 213 #[.val (.int p1), .val (.int p2), .val (.int p3), .val (.int p4), .val (.int (0 : Int32)), .val (.ref b1_), .val (.ref b18_), .val (.int vq), .unset, .unset, .unset] []))
    have hq := own_m255 p4
    rw [hvq] at hq
    have Vp : Arv Z h18_ b18_ k18_ .byte (0 : Int32) (([] : List Int32).map Value.int) (.int (0 : Int32)) := by have q := V18_; exact q
    refine own_fin (b := T18_.setTop (mkF mM 215 #[.val (.int p1), .val (.int p2), .val (.int p3), .val (.int p4), .val (.int (0 : Int32)), .val (.ref b1_), .val (.ref b18_), .val (.int vq), .unset, .unset, .unset] [(.ref b18_)])) (fun tT kK => ?_) ?_
    · show Steps pP.tables eE below (T18_.setTop (mkF mM 213 #[.val (.int p1), .val (.int p2), .val (.int p3), .val (.int p4), .val (.int (0 : Int32)), .val (.ref b1_), .val (.ref b18_), .val (.int vq), .unset, .unset, .unset] [])) tT
      refine XS.aload X18_.here hx rfl (Jvm.hb hby at_213) rfl rfl ?_
      show Steps pP.tables eE below (T18_.setTop (mkF mM 215 #[.val (.int p1), .val (.int p2), .val (.int p3), .val (.int p4), .val (.int (0 : Int32)), .val (.ref b1_), .val (.ref b18_), .val (.int vq), .unset, .unset, .unset] [(.ref b18_)])) tT
      exact kK
    obtain ⟨_, _, ⟨T21_, L21_, k21_, n21_⟩, -, X21_, ⟨Lc21_, hQ21_, l21_, y21_, z21_⟩, st21_⟩ := Jvm.LawKit.callS X18_ hx (y := (⟨"com/example/needlework/needlework/BoyerMoore", "rightmost", "([B)[I"⟩ : MethodName)) hown (mvT hZ (hw _ (List.mem_of_getElem? (i := 1) rfl))) (mvT hZ (hw _ (List.mem_of_getElem? (i := 2) rfl))) (mvT hZ (hw _ (List.mem_of_getElem? (i := 3) rfl))) (mvT hZ (hw _ (List.mem_of_getElem? (i := 4) rfl))) (by decide) (backOf (W := 0) (rm_right lL Z a0 hw [] b18_ k18_ (0 : Int32) ([] : List Int32) h18_ n0 (Nat.le_trans Z0 K18_.1) Vp) hZ (hw _ (List.mem_of_getElem? (i := 4) rfl)) (hw _ (List.mem_of_getElem? (i := 3) rfl)) (by decide) (by decide)) (g := (mkF mM 215 #[.val (.int p1), .val (.int p2), .val (.int p3), .val (.int p4), .val (.int (0 : Int32)), .val (.ref b1_), .val (.ref b18_), .val (.int vq), .unset, .unset, .unset] [(.ref b18_)])) rfl (by rw [hml]; rfl) (argsL := [(.ref b18_)]) (rest := []) (lenOf own_pd1 rfl) rfl (by show 2 * 0 + _ ≤ _; exact Nat.le_of_eq rfl) (Jvm.hb hby at_215) (fun _ _ => ⟨rfl, e18_, (by decide : 2 + 1 ≤ _), (by decide : 8 + 256 ≤ _)⟩)
    dsimp only [Pt.U, Pt.locs, Pt.cells, Pt.slots] at X21_ l21_ y21_ z21_ st21_ hQ21_
    subst l21_ y21_ z21_
    obtain ⟨b_21_, rfl, N21_q, p21__0, p21__1, p21__2⟩ := hQ21_
    have N21_ := Fr.app N17_ N21_q
    have sz_b_21_ : h0.size ≤ b_21_ := Nat.le_trans K18_.1 p21__1
    have ge_b_21_ : n0 ≤ b_21_ := Nat.le_trans Z0 sz_b_21_
    have ne22_ : b1_ ≠ b_21_ := Nat.ne_of_lt (Nat.lt_of_lt_of_le fc20_.lt p21__1)
    have ne23_ : b18_ ≠ b_21_ := Nat.ne_of_lt (Nat.lt_of_lt_of_le V18_.lt p21__1)
    have fc24_ := fc20_.keep p21__0 nin0
    have fc25_ := V18_.keep p21__0 nin0
    have K21_ := K18_.trans p21__0 all0
    refine own_fin (fun tT kK => st21_ tT kK) ?_
    show own_Fin pP eE below _ (T21_.setTop (mkF mM 218 #[.val (.int p1), .val (.int p2), .val (.int p3), .val (.int p4), .val (.int (0 : Int32)), .val (.ref b1_), .val (.ref b18_), .val (.int vq), .unset, .unset, .unset] [(.ref b_21_)]))
    refine own_fin (b := T21_.setTop (mkF mM 227 #[.val (.int p1), .val (.int p2), .val (.int p3), .val (.int p4), .val (.int (0 : Int32)), .val (.ref b1_), .val (.ref b18_), .val (.int vq), .val (.ref b_21_), .unset, .unset] [(.ref b_21_)])) (fun tT kK => ?_) ?_
    · show Steps pP.tables eE below (T21_.setTop (mkF mM 218 #[.val (.int p1), .val (.int p2), .val (.int p3), .val (.int p4), .val (.int (0 : Int32)), .val (.ref b1_), .val (.ref b18_), .val (.int vq), .unset, .unset, .unset] [(.ref b_21_)])) tT
      refine XS.astore X21_.here hx rfl (Jvm.hb hby at_218) rfl rfl (l' := #[.val (.int p1), .val (.int p2), .val (.int p3), .val (.int p4), .val (.int (0 : Int32)), .val (.ref b1_), .val (.ref b18_), .val (.int vq), .val (.ref b_21_), .unset, .unset]) rfl ?_
      show Steps pP.tables eE below (T21_.setTop (mkF mM 220 #[.val (.int p1), .val (.int p2), .val (.int p3), .val (.int p4), .val (.int (0 : Int32)), .val (.ref b1_), .val (.ref b18_), .val (.int vq), .val (.ref b_21_), .unset, .unset] [])) tT
      refine XS.aload X21_.here hx rfl (Jvm.hb hby at_220) rfl rfl ?_
      show Steps pP.tables eE below (T21_.setTop (mkF mM 222 #[.val (.int p1), .val (.int p2), .val (.int p3), .val (.int p4), .val (.int (0 : Int32)), .val (.ref b1_), .val (.ref b18_), .val (.int vq), .val (.ref b_21_), .unset, .unset] [(.ref b_21_)])) tT
      refine XS.ifnullNo X21_.here hx rfl (Jvm.hb hby at_222) rfl ?_
      show Steps pP.tables eE below (T21_.setTop (mkF mM 225 #[.val (.int p1), .val (.int p2), .val (.int p3), .val (.int p4), .val (.int (0 : Int32)), .val (.ref b1_), .val (.ref b18_), .val (.int vq), .val (.ref b_21_), .unset, .unset] [])) tT
      refine XS.aload X21_.here hx rfl (Jvm.hb hby at_225) rfl rfl ?_
      show Steps pP.tables eE below (T21_.setTop (mkF mM 227 #[.val (.int p1), .val (.int p2), .val (.int p3), .val (.int p4), .val (.int (0 : Int32)), .val (.ref b1_), .val (.ref b18_), .val (.int vq), .val (.ref b_21_), .unset, .unset] [(.ref b_21_)])) tT
      exact kK
    obtain ⟨cl26_, Ar26_, Sz26_, Nn26_, -⟩ := id p21__2
    refine own_fin (b := T21_.setTop (mkF mM 240 #[.val (.int p1), .val (.int p2), .val (.int p3), .val (.int p4), .val (.int (0 : Int32)), .val (.ref b1_), .val (.ref b18_), .val (.int vq), .val (.ref b_21_), .unset, .unset] [(.int vq), (.ref b_21_)])) (fun tT kK => ?_) ?_
    · show Steps pP.tables eE below (T21_.setTop (mkF mM 227 #[.val (.int p1), .val (.int p2), .val (.int p3), .val (.int p4), .val (.int (0 : Int32)), .val (.ref b1_), .val (.ref b18_), .val (.int vq), .val (.ref b_21_), .unset, .unset] [(.ref b_21_)])) tT
      refine X21_.arraylength hx (own_rw rfl Ar26_.1) (State.isArrayOf_alike hZ.alike Ar26_.2.1) (g := (mkF mM 227 #[.val (.int p1), .val (.int p2), .val (.int p3), .val (.int p4), .val (.int (0 : Int32)), .val (.ref b1_), .val (.ref b18_), .val (.int vq), .val (.ref b_21_), .unset, .unset] [(.ref b_21_)])) rfl rfl (Jvm.hb hby at_227) _ ?_
      rw [len_of Sz26_ Nn26_]
      show Steps pP.tables eE below (T21_.setTop (mkF mM 228 #[.val (.int p1), .val (.int p2), .val (.int p3), .val (.int p4), .val (.int (0 : Int32)), .val (.ref b1_), .val (.ref b18_), .val (.int vq), .val (.ref b_21_), .unset, .unset] [(.int (256 : Int32))])) tT
      refine XS.sipush X21_.here hx rfl (Jvm.hb hby at_228) ?_
      show Steps pP.tables eE below (T21_.setTop (mkF mM 231 #[.val (.int p1), .val (.int p2), .val (.int p3), .val (.int p4), .val (.int (0 : Int32)), .val (.ref b1_), .val (.ref b18_), .val (.int vq), .val (.ref b_21_), .unset, .unset] [(.int (256 : Int32)), (.int (256 : Int32))])) tT
      refine XS.icmpYes X21_.here hx rfl (pc0 := 231) (pc' := 236) rfl (Jvm.hb hby at_231) rfl (teq ((by decide) : (256 : Int32) = (256 : Int32))).1 (by decide) (by decide) ?_
      show Steps pP.tables eE below (T21_.setTop (mkF mM 236 #[.val (.int p1), .val (.int p2), .val (.int p3), .val (.int p4), .val (.int (0 : Int32)), .val (.ref b1_), .val (.ref b18_), .val (.int vq), .val (.ref b_21_), .unset, .unset] [])) tT
      refine XS.aload X21_.here hx rfl (Jvm.hb hby at_236) rfl rfl ?_
      show Steps pP.tables eE below (T21_.setTop (mkF mM 238 #[.val (.int p1), .val (.int p2), .val (.int p3), .val (.int p4), .val (.int (0 : Int32)), .val (.ref b1_), .val (.ref b18_), .val (.int vq), .val (.ref b_21_), .unset, .unset] [(.ref b_21_)])) tT
      refine XS.iload X21_.here hx rfl (Jvm.hb hby at_238) rfl ?_
      show Steps pP.tables eE below (T21_.setTop (mkF mM 240 #[.val (.int p1), .val (.int p2), .val (.int p3), .val (.int p4), .val (.int (0 : Int32)), .val (.ref b1_), .val (.ref b18_), .val (.int vq), .val (.ref b_21_), .unset, .unset] [(.int vq), (.ref b_21_)])) tT
      exact kK
    obtain ⟨cl27_, Ar27_, Sz27_, Nn27_, Hh27_⟩ := id p21__2
    have hin27_ : ¬ (vq < 0 ∨ cl27_.slots.size ≤ (vq).toNatClampNeg) := inb_of Sz27_ hq
    have hat27_ : cl27_.slots[(vq).toNatClampNeg]? = some (.int ((own_ft ([] : List Int32) (0 : Int32).toNatClampNeg) vq)) := Hh27_ _ hin27_
    refine own_fin (b := T21_.setTop (mkF mM 247 #[.val (.int p1), .val (.int p2), .val (.int p3), .val (.int p4), .val (.int (0 : Int32)), .val (.ref b1_), .val (.ref b18_), .val (.int vq), .val (.ref b_21_), .unset, .unset] [(.int vq), (.int (0 : Int32)), (.ref b1_), (.int ((own_ft ([] : List Int32) (0 : Int32).toNatClampNeg) vq))])) (fun tT kK => ?_) ?_
    · show Steps pP.tables eE below (T21_.setTop (mkF mM 240 #[.val (.int p1), .val (.int p2), .val (.int p3), .val (.int p4), .val (.int (0 : Int32)), .val (.ref b1_), .val (.ref b18_), .val (.int vq), .val (.ref b_21_), .unset, .unset] [(.int vq), (.ref b_21_)])) tT
      refine X21_.iaload hx (j := vq) (v := (.int ((own_ft ([] : List Int32) (0 : Int32).toNatClampNeg) vq))) (own_rw rfl Ar27_.1) (State.isArrayOf_alike hZ.alike Ar27_.2.1) Ar27_.2.2 hin27_ hat27_ (g := (mkF mM 240 #[.val (.int p1), .val (.int p2), .val (.int p3), .val (.int p4), .val (.int (0 : Int32)), .val (.ref b1_), .val (.ref b18_), .val (.int vq), .val (.ref b_21_), .unset, .unset] [(.int vq), (.ref b_21_)])) rfl rfl (Jvm.hb hby at_240) _ ?_
      show Steps pP.tables eE below (T21_.setTop (mkF mM 241 #[.val (.int p1), .val (.int p2), .val (.int p3), .val (.int p4), .val (.int (0 : Int32)), .val (.ref b1_), .val (.ref b18_), .val (.int vq), .val (.ref b_21_), .unset, .unset] [(.int ((own_ft ([] : List Int32) (0 : Int32).toNatClampNeg) vq))])) tT
      refine XS.aload X21_.here hx rfl (Jvm.hb hby at_241) rfl rfl ?_
      show Steps pP.tables eE below (T21_.setTop (mkF mM 243 #[.val (.int p1), .val (.int p2), .val (.int p3), .val (.int p4), .val (.int (0 : Int32)), .val (.ref b1_), .val (.ref b18_), .val (.int vq), .val (.ref b_21_), .unset, .unset] [(.ref b1_), (.int ((own_ft ([] : List Int32) (0 : Int32).toNatClampNeg) vq))])) tT
      refine XS.iload X21_.here hx rfl (Jvm.hb hby at_243) rfl ?_
      show Steps pP.tables eE below (T21_.setTop (mkF mM 245 #[.val (.int p1), .val (.int p2), .val (.int p3), .val (.int p4), .val (.int (0 : Int32)), .val (.ref b1_), .val (.ref b18_), .val (.int vq), .val (.ref b_21_), .unset, .unset] [(.int (0 : Int32)), (.ref b1_), (.int ((own_ft ([] : List Int32) (0 : Int32).toNatClampNeg) vq))])) tT
      refine XS.iload X21_.here hx rfl (Jvm.hb hby at_245) rfl ?_
      show Steps pP.tables eE below (T21_.setTop (mkF mM 247 #[.val (.int p1), .val (.int p2), .val (.int p3), .val (.int p4), .val (.int (0 : Int32)), .val (.ref b1_), .val (.ref b18_), .val (.int vq), .val (.ref b_21_), .unset, .unset] [(.int vq), (.int (0 : Int32)), (.ref b1_), (.int ((own_ft ([] : List Int32) (0 : Int32).toNatClampNeg) vq))])) tT
      exact kK
    obtain ⟨_, _, ⟨T28_, L28_, k28_, n28_⟩, -, X28_, ⟨Lc28_, hQ28_, l28_, y28_, z28_⟩, st28_⟩ := Jvm.LawKit.callS X21_ hx (y := (⟨"com/example/needlework/needlework/BoyerMooreRightmostPinLaw", "ref", "([BII)I"⟩ : MethodName)) hown (mvT hZ (hw _ (List.mem_of_getElem? (i := 10) rfl))) (mvT hZ (hw _ (List.mem_of_getElem? (i := 11) rfl))) (mvT hZ (hw _ (List.mem_of_getElem? (i := 12) rfl))) (mvT hZ (hw _ (List.mem_of_getElem? (i := 13) rfl))) (by decide) (backOf (W := 1) (rm_ref lL Z a0 hw [] b1_ k1_ (0 : Int32) vq x0 x1 x2 x3 x4 x5 x6 x7 T21_.heap n0 (Nat.le_trans Z0 K21_.1) fc24_) hZ (hw _ (List.mem_of_getElem? (i := 13) rfl)) (hw _ (List.mem_of_getElem? (i := 12) rfl)) (by decide) (by decide)) (g := (mkF mM 247 #[.val (.int p1), .val (.int p2), .val (.int p3), .val (.int p4), .val (.int (0 : Int32)), .val (.ref b1_), .val (.ref b18_), .val (.int vq), .val (.ref b_21_), .unset, .unset] [(.int vq), (.int (0 : Int32)), (.ref b1_), (.int ((own_ft ([] : List Int32) (0 : Int32).toNatClampNeg) vq))])) rfl (by rw [hml]; rfl) (argsL := [(.ref b1_), (.int (0 : Int32)), (.int vq)]) (rest := [(.int ((own_ft ([] : List Int32) (0 : Int32).toNatClampNeg) vq))]) (lenOf own_pd2 rfl) rfl (by show 2 * 0 + _ ≤ _; exact Nat.le_of_eq rfl) (Jvm.hb hby at_247) (fun _ _ => ⟨rfl, rfl, (by decide : 3 + 0 ≤ _), (by decide : 264 + 0 ≤ _)⟩)
    dsimp only [Pt.U, Pt.locs, Pt.cells, Pt.slots] at X28_ l28_ y28_ z28_ st28_ hQ28_
    subst l28_ y28_ z28_
    obtain ⟨rfl, N28_q, p28__0⟩ := hQ28_
    have N28_ := Fr.app N21_ N28_q
    refine own_fin (fun tT kK => st28_ tT kK) ?_
    show own_Fin pP eE below _ (T28_.setTop (mkF mM 250 #[.val (.int p1), .val (.int p2), .val (.int p3), .val (.int p4), .val (.int (0 : Int32)), .val (.ref b1_), .val (.ref b18_), .val (.int vq), .val (.ref b_21_), .unset, .unset] [(.int (own_ref (0 : Int32) vq x0 x1 x2 x3 x4 x5 x6 x7)), (.int ((own_ft ([] : List Int32) (0 : Int32).toNatClampNeg) vq))]))
    refine own_fin (b := T28_.setTop (mkF mM 304 #[.val (.int p1), .val (.int p2), .val (.int p3), .val (.int p4), .val (.int (0 : Int32)), .val (.ref b1_), .val (.ref b18_), .val (.int vq), .val (.ref b_21_), .val (.int (1 : Int32)), .unset] [(.int (1 : Int32))])) (fun tT kK => ?_) ?_
    · show Steps pP.tables eE below (T28_.setTop (mkF mM 250 #[.val (.int p1), .val (.int p2), .val (.int p3), .val (.int p4), .val (.int (0 : Int32)), .val (.ref b1_), .val (.ref b18_), .val (.int vq), .val (.ref b_21_), .unset, .unset] [(.int (own_ref (0 : Int32) vq x0 x1 x2 x3 x4 x5 x6 x7)), (.int ((own_ft ([] : List Int32) (0 : Int32).toNatClampNeg) vq))])) tT
      refine XS.icmpNo X28_.here hx rfl (Jvm.hb hby at_250) rfl (teq (own_e0 vq x0 x1 x2 x3 x4 x5 x6 x7 : ((own_ft ([] : List Int32) (0 : Int32).toNatClampNeg) vq) = (own_ref (0 : Int32) vq x0 x1 x2 x3 x4 x5 x6 x7))).2 ?_
      show Steps pP.tables eE below (T28_.setTop (mkF mM 253 #[.val (.int p1), .val (.int p2), .val (.int p3), .val (.int p4), .val (.int (0 : Int32)), .val (.ref b1_), .val (.ref b18_), .val (.int vq), .val (.ref b_21_), .unset, .unset] [])) tT
      refine XS.iconst X28_.here hx rfl (Jvm.hb hby at_253) ?_
      show Steps pP.tables eE below (T28_.setTop (mkF mM 254 #[.val (.int p1), .val (.int p2), .val (.int p3), .val (.int p4), .val (.int (0 : Int32)), .val (.ref b1_), .val (.ref b18_), .val (.int vq), .val (.ref b_21_), .unset, .unset] [(.int (1 : Int32))])) tT
      refine XS.goto X28_.here hx rfl (pc0 := 254) (pc' := 258) rfl (Jvm.hb hby at_254) (by decide) (by decide) ?_
      show Steps pP.tables eE below (T28_.setTop (mkF mM 258 #[.val (.int p1), .val (.int p2), .val (.int p3), .val (.int p4), .val (.int (0 : Int32)), .val (.ref b1_), .val (.ref b18_), .val (.int vq), .val (.ref b_21_), .unset, .unset] [(.int (1 : Int32))])) tT
      refine XS.istore X28_.here hx rfl (Jvm.hb hby at_258) rfl (l' := #[.val (.int p1), .val (.int p2), .val (.int p3), .val (.int p4), .val (.int (0 : Int32)), .val (.ref b1_), .val (.ref b18_), .val (.int vq), .val (.ref b_21_), .val (.int (1 : Int32)), .unset]) rfl ?_
      show Steps pP.tables eE below (T28_.setTop (mkF mM 260 #[.val (.int p1), .val (.int p2), .val (.int p3), .val (.int p4), .val (.int (0 : Int32)), .val (.ref b1_), .val (.ref b18_), .val (.int vq), .val (.ref b_21_), .val (.int (1 : Int32)), .unset] [])) tT
      refine XS.iload X28_.here hx rfl (Jvm.hb hby at_260) rfl ?_
      show Steps pP.tables eE below (T28_.setTop (mkF mM 262 #[.val (.int p1), .val (.int p2), .val (.int p3), .val (.int p4), .val (.int (0 : Int32)), .val (.ref b1_), .val (.ref b18_), .val (.int vq), .val (.ref b_21_), .val (.int (1 : Int32)), .unset] [(.int (0 : Int32))])) tT
      refine XS.ifYes X28_.here hx rfl (pc0 := 262) (pc' := 302) rfl (Jvm.hb hby at_262) rfl ((if0 _ _).trans (flt ((by decide) : ¬ ((0 : Int32) < (0 : Int32)))).2.2.2) (by decide) (by decide) ?_
      show Steps pP.tables eE below (T28_.setTop (mkF mM 302 #[.val (.int p1), .val (.int p2), .val (.int p3), .val (.int p4), .val (.int (0 : Int32)), .val (.ref b1_), .val (.ref b18_), .val (.int vq), .val (.ref b_21_), .val (.int (1 : Int32)), .unset] [])) tT
      refine XS.iload X28_.here hx rfl (Jvm.hb hby at_302) rfl ?_
      show Steps pP.tables eE below (T28_.setTop (mkF mM 304 #[.val (.int p1), .val (.int p2), .val (.int p3), .val (.int p4), .val (.int (0 : Int32)), .val (.ref b1_), .val (.ref b18_), .val (.int vq), .val (.ref b_21_), .val (.int (1 : Int32)), .unset] [(.int (1 : Int32))])) tT
      exact kK
    obtain ⟨fs, hr, hrun, hended, hW, hsame⟩ := X28_.leave (v := some (.int (1 : Int32))) (fun h => by rw [Bd.returns] at h; cases h)
    refine ⟨_, _, ?_, hrun, hended, _, _, rfl, ?_, ⟨_, rfl⟩, hW, hsame.mono (by decide) (by decide)⟩
    · show Steps pP.tables eE below (T28_.setTop (mkF mM 304 #[.val (.int p1), .val (.int p2), .val (.int p3), .val (.int p4), .val (.int (0 : Int32)), .val (.ref b1_), .val (.ref b18_), .val (.int vq), .val (.ref b_21_), .val (.int (1 : Int32)), .unset] [(.int (1 : Int32))])) _
      exact retN X28_ hx (t := .boolean) Bd.returns (by simp) (Jvm.hb hby at_304) hr
    · show Q_rm0 Z p1 p2 p3 p4 h0 n0 _ T28_.heap _
      rw [p28__0]
      exact ⟨rfl, N28_⟩
  · show own_Fin pP eE below _ (T17_.setTop (mkF mM 83 #[.val (.int p1), .val (.int p2), .val (.int p3), .val (.int p4), .val (.int (1 : Int32)), .val (.ref b1_), .unset, .unset, .unset, .unset, .unset] []))
    refine own_fin (b := T17_.setTop (mkF mM 85 #[.val (.int p1), .val (.int p2), .val (.int p3), .val (.int p4), .val (.int (1 : Int32)), .val (.ref b1_), .unset, .unset, .unset, .unset, .unset] [(.int (1 : Int32))])) (fun tT kK => ?_) ?_
    · show Steps pP.tables eE below (T17_.setTop (mkF mM 83 #[.val (.int p1), .val (.int p2), .val (.int p3), .val (.int p4), .val (.int (1 : Int32)), .val (.ref b1_), .unset, .unset, .unset, .unset, .unset] [])) tT
      refine XS.iload X17_.here hx rfl (Jvm.hb hby at_83) rfl ?_
      show Steps pP.tables eE below (T17_.setTop (mkF mM 85 #[.val (.int p1), .val (.int p2), .val (.int p3), .val (.int p4), .val (.int (1 : Int32)), .val (.ref b1_), .unset, .unset, .unset, .unset, .unset] [(.int (1 : Int32))])) tT
      exact kK
    obtain ⟨T29_, h29_, k29_, X29_, e29_, E29_, A29_, st29_⟩ := newP X17_ hx hZ (hw _ (List.mem_of_getElem? (i := 0) rfl)) e17_ (g := (mkF mM 85 #[.val (.int p1), .val (.int p2), .val (.int p3), .val (.int p4), .val (.int (1 : Int32)), .val (.ref b1_), .unset, .unset, .unset, .unset, .unset] [(.int (1 : Int32))])) rfl (Jvm.hb hby at_85) rfl (by decide) (cap := 1) (by decide) (by decide) (by decide) (by decide)
    obtain ⟨b29_, g29_⟩ : ∃ z, z = h17_.size := ⟨_, rfl⟩
    rw [← g29_] at A29_ st29_
    have sz_b29_ : h0.size ≤ b29_ := Nat.le_trans K17_.1 (Nat.le_of_eq g29_.symm)
    have ge_b29_ : n0 ≤ b29_ := Nat.le_trans Z0 sz_b29_
    have ne30_ : b1_ ≠ b29_ := Nat.ne_of_lt (Nat.lt_of_lt_of_le V17_.lt (Nat.le_of_eq g29_.symm))
    have fc31_ := V17_.ext E29_
    have K29_ := K17_.ext E29_
    have V29_ : Arv Z h29_ b29_ k29_ .byte (1 : Int32) [(.int (0 : Int32))] (.int (0 : Int32)) := (Arv.new A29_ (by decide)).pad (pad_rep [] (.int (0 : Int32)) 1)
    refine own_fin st29_ ?_
    show own_Fin pP eE below _ (T29_.setTop (mkF mM 87 #[.val (.int p1), .val (.int p2), .val (.int p3), .val (.int p4), .val (.int (1 : Int32)), .val (.ref b1_), .unset, .unset, .unset, .unset, .unset] [(.ref b29_)]))
    refine own_fin (b := T29_.setTop (mkF mM 100 #[.val (.int p1), .val (.int p2), .val (.int p3), .val (.int p4), .val (.int (1 : Int32)), .val (.ref b1_), .val (.ref b29_), .unset, .unset, .unset, .unset] [(.int (0 : Int32)), (.ref b1_), (.int (0 : Int32)), (.ref b29_)])) (fun tT kK => ?_) ?_
    · show Steps pP.tables eE below (T29_.setTop (mkF mM 87 #[.val (.int p1), .val (.int p2), .val (.int p3), .val (.int p4), .val (.int (1 : Int32)), .val (.ref b1_), .unset, .unset, .unset, .unset, .unset] [(.ref b29_)])) tT
      refine XS.astore X29_.here hx rfl (Jvm.hb hby at_87) rfl rfl (l' := #[.val (.int p1), .val (.int p2), .val (.int p3), .val (.int p4), .val (.int (1 : Int32)), .val (.ref b1_), .val (.ref b29_), .unset, .unset, .unset, .unset]) rfl ?_
      show Steps pP.tables eE below (T29_.setTop (mkF mM 89 #[.val (.int p1), .val (.int p2), .val (.int p3), .val (.int p4), .val (.int (1 : Int32)), .val (.ref b1_), .val (.ref b29_), .unset, .unset, .unset, .unset] [])) tT
      refine XS.iload X29_.here hx rfl (Jvm.hb hby at_89) rfl ?_
      show Steps pP.tables eE below (T29_.setTop (mkF mM 91 #[.val (.int p1), .val (.int p2), .val (.int p3), .val (.int p4), .val (.int (1 : Int32)), .val (.ref b1_), .val (.ref b29_), .unset, .unset, .unset, .unset] [(.int (1 : Int32))])) tT
      refine XS.ifNo X29_.here hx rfl (Jvm.hb hby at_91) rfl ((if0 _ _).trans (tlt ((by decide) : (0 : Int32) < (1 : Int32))).2.2.2) ?_
      show Steps pP.tables eE below (T29_.setTop (mkF mM 94 #[.val (.int p1), .val (.int p2), .val (.int p3), .val (.int p4), .val (.int (1 : Int32)), .val (.ref b1_), .val (.ref b29_), .unset, .unset, .unset, .unset] [])) tT
      refine XS.aload X29_.here hx rfl (Jvm.hb hby at_94) rfl rfl ?_
      show Steps pP.tables eE below (T29_.setTop (mkF mM 96 #[.val (.int p1), .val (.int p2), .val (.int p3), .val (.int p4), .val (.int (1 : Int32)), .val (.ref b1_), .val (.ref b29_), .unset, .unset, .unset, .unset] [(.ref b29_)])) tT
      refine XS.iconst X29_.here hx rfl (Jvm.hb hby at_96) ?_
      show Steps pP.tables eE below (T29_.setTop (mkF mM 97 #[.val (.int p1), .val (.int p2), .val (.int p3), .val (.int p4), .val (.int (1 : Int32)), .val (.ref b1_), .val (.ref b29_), .unset, .unset, .unset, .unset] [(.int (0 : Int32)), (.ref b29_)])) tT
      refine XS.aload X29_.here hx rfl (Jvm.hb hby at_97) rfl rfl ?_
      show Steps pP.tables eE below (T29_.setTop (mkF mM 99 #[.val (.int p1), .val (.int p2), .val (.int p3), .val (.int p4), .val (.int (1 : Int32)), .val (.ref b1_), .val (.ref b29_), .unset, .unset, .unset, .unset] [(.ref b1_), (.int (0 : Int32)), (.ref b29_)])) tT
      refine XS.iconst X29_.here hx rfl (Jvm.hb hby at_99) ?_
      show Steps pP.tables eE below (T29_.setTop (mkF mM 100 #[.val (.int p1), .val (.int p2), .val (.int p3), .val (.int p4), .val (.int (1 : Int32)), .val (.ref b1_), .val (.ref b29_), .unset, .unset, .unset, .unset] [(.int (0 : Int32)), (.ref b1_), (.int (0 : Int32)), (.ref b29_)])) tT
      exact kK
    obtain ⟨cl32_, Ar32_, qk32_, Sz32_, Nn32_, Hh32_, Gg32_⟩ := id fc31_
    have hin33_ : ¬ ((0 : Int32) < 0 ∨ cl32_.slots.size ≤ ((0 : Int32)).toNatClampNeg) := inb_of Sz32_ ⟨by decide, by decide⟩
    have hat33_ : cl32_.slots[((0 : Int32)).toNatClampNeg]? = some (.int x0) := Hh32_.at hin33_ rfl
    refine own_fin (b := T29_.setTop (mkF mM 101 #[.val (.int p1), .val (.int p2), .val (.int p3), .val (.int p4), .val (.int (1 : Int32)), .val (.ref b1_), .val (.ref b29_), .unset, .unset, .unset, .unset] [(.int x0), (.int (0 : Int32)), (.ref b29_)])) (fun tT kK => ?_) ?_
    · show Steps pP.tables eE below (T29_.setTop (mkF mM 100 #[.val (.int p1), .val (.int p2), .val (.int p3), .val (.int p4), .val (.int (1 : Int32)), .val (.ref b1_), .val (.ref b29_), .unset, .unset, .unset, .unset] [(.int (0 : Int32)), (.ref b1_), (.int (0 : Int32)), (.ref b29_)])) tT
      refine X29_.baloadBytes hx (j := (0 : Int32)) (v := (.int x0)) (own_rw e29_ Ar32_.1) (State.isArrayOf_alike hZ.alike Ar32_.2.1) Ar32_.2.2 hin33_ hat33_ (g := (mkF mM 100 #[.val (.int p1), .val (.int p2), .val (.int p3), .val (.int p4), .val (.int (1 : Int32)), .val (.ref b1_), .val (.ref b29_), .unset, .unset, .unset, .unset] [(.int (0 : Int32)), (.ref b1_), (.int (0 : Int32)), (.ref b29_)])) rfl rfl (Jvm.hb hby at_100) _ ?_
      show Steps pP.tables eE below (T29_.setTop (mkF mM 101 #[.val (.int p1), .val (.int p2), .val (.int p3), .val (.int p4), .val (.int (1 : Int32)), .val (.ref b1_), .val (.ref b29_), .unset, .unset, .unset, .unset] [(.int x0), (.int (0 : Int32)), (.ref b29_)])) tT
      exact kK
    obtain ⟨cl34_, Ar34_, qk34_, Sz34_, Nn34_, Hh34_, Gg34_⟩ := id V29_
    have hin35_ : ¬ ((0 : Int32) < 0 ∨ cl34_.slots.size ≤ ((0 : Int32)).toNatClampNeg) := inb_of Sz34_ ⟨by decide, by decide⟩
    obtain ⟨T35_, h35_, X35_, e35_, W35_, st35_⟩ := stB X29_ hx hZ e29_ Ar34_ (j := (0 : Int32)) hin35_ (g := (mkF mM 101 #[.val (.int p1), .val (.int p2), .val (.int p3), .val (.int p4), .val (.int (1 : Int32)), .val (.ref b1_), .val (.ref b29_), .unset, .unset, .unset, .unset] [(.int x0), (.int (0 : Int32)), (.ref b29_)])) rfl rfl (Jvm.hb hby at_101)
    have V35_ : Arv Z h35_ b29_ k29_ .byte (1 : Int32) [(.int (nar .byte x0))] (.int (0 : Int32)) := Arv.set Ar34_ qk34_ Sz34_ Nn34_ Hh34_ Gg34_ (fits_nar_byte _) W35_ 0 rfl (Nat.le_of_ble_eq_true rfl)
    have fc36_ := fc31_.other W35_ ne30_
    have K35_ := K29_.wr W35_ (Or.inr sz_b29_)
    have N35_ := Fr.snoc X35_ N17_ ge_b29_
    refine own_fin st35_ ?_
    show own_Fin pP eE below _ (T35_.setTop (mkF mM 102 #[.val (.int p1), .val (.int p2), .val (.int p3), .val (.int p4), .val (.int (1 : Int32)), .val (.ref b1_), .val (.ref b29_), .unset, .unset, .unset, .unset] []))
    refine own_fin (b := T35_.setTop (mkF mM 213 #[.val (.int p1), .val (.int p2), .val (.int p3), .val (.int p4), .val (.int (1 : Int32)), .val (.ref b1_), .val (.ref b29_), .val (.int (p4 &&& (255 : Int32))), .unset, .unset, .unset] [])) (fun tT kK => ?_) ?_
    · show Steps pP.tables eE below (T35_.setTop (mkF mM 102 #[.val (.int p1), .val (.int p2), .val (.int p3), .val (.int p4), .val (.int (1 : Int32)), .val (.ref b1_), .val (.ref b29_), .unset, .unset, .unset, .unset] [])) tT
      refine XS.iload X35_.here hx rfl (Jvm.hb hby at_102) rfl ?_
      show Steps pP.tables eE below (T35_.setTop (mkF mM 104 #[.val (.int p1), .val (.int p2), .val (.int p3), .val (.int p4), .val (.int (1 : Int32)), .val (.ref b1_), .val (.ref b29_), .unset, .unset, .unset, .unset] [(.int (1 : Int32))])) tT
      refine XS.iconst X35_.here hx rfl (Jvm.hb hby at_104) ?_
      show Steps pP.tables eE below (T35_.setTop (mkF mM 105 #[.val (.int p1), .val (.int p2), .val (.int p3), .val (.int p4), .val (.int (1 : Int32)), .val (.ref b1_), .val (.ref b29_), .unset, .unset, .unset, .unset] [(.int (1 : Int32)), (.int (1 : Int32))])) tT
      refine XS.icmpYes X35_.here hx rfl (pc0 := 105) (pc' := 116) rfl (Jvm.hb hby at_105) rfl (flt ((by decide) : ¬ ((1 : Int32) < (1 : Int32)))).2.2.2 (by decide) (by decide) ?_
      show Steps pP.tables eE below (T35_.setTop (mkF mM 116 #[.val (.int p1), .val (.int p2), .val (.int p3), .val (.int p4), .val (.int (1 : Int32)), .val (.ref b1_), .val (.ref b29_), .unset, .unset, .unset, .unset] [])) tT
      refine XS.iload X35_.here hx rfl (Jvm.hb hby at_116) rfl ?_
      show Steps pP.tables eE below (T35_.setTop (mkF mM 118 #[.val (.int p1), .val (.int p2), .val (.int p3), .val (.int p4), .val (.int (1 : Int32)), .val (.ref b1_), .val (.ref b29_), .unset, .unset, .unset, .unset] [(.int (1 : Int32))])) tT
      refine XS.iconst X35_.here hx rfl (Jvm.hb hby at_118) ?_
      show Steps pP.tables eE below (T35_.setTop (mkF mM 119 #[.val (.int p1), .val (.int p2), .val (.int p3), .val (.int p4), .val (.int (1 : Int32)), .val (.ref b1_), .val (.ref b29_), .unset, .unset, .unset, .unset] [(.int (2 : Int32)), (.int (1 : Int32))])) tT
      refine XS.icmpYes X35_.here hx rfl (pc0 := 119) (pc' := 130) rfl (Jvm.hb hby at_119) rfl (flt ((by decide) : ¬ ((2 : Int32) < (1 : Int32)))).2.2.2 (by decide) (by decide) ?_
      show Steps pP.tables eE below (T35_.setTop (mkF mM 130 #[.val (.int p1), .val (.int p2), .val (.int p3), .val (.int p4), .val (.int (1 : Int32)), .val (.ref b1_), .val (.ref b29_), .unset, .unset, .unset, .unset] [])) tT
      refine XS.iload X35_.here hx rfl (Jvm.hb hby at_130) rfl ?_
      show Steps pP.tables eE below (T35_.setTop (mkF mM 132 #[.val (.int p1), .val (.int p2), .val (.int p3), .val (.int p4), .val (.int (1 : Int32)), .val (.ref b1_), .val (.ref b29_), .unset, .unset, .unset, .unset] [(.int (1 : Int32))])) tT
      refine XS.iconst X35_.here hx rfl (Jvm.hb hby at_132) ?_
      show Steps pP.tables eE below (T35_.setTop (mkF mM 133 #[.val (.int p1), .val (.int p2), .val (.int p3), .val (.int p4), .val (.int (1 : Int32)), .val (.ref b1_), .val (.ref b29_), .unset, .unset, .unset, .unset] [(.int (3 : Int32)), (.int (1 : Int32))])) tT
      refine XS.icmpYes X35_.here hx rfl (pc0 := 133) (pc' := 144) rfl (Jvm.hb hby at_133) rfl (flt ((by decide) : ¬ ((3 : Int32) < (1 : Int32)))).2.2.2 (by decide) (by decide) ?_
      show Steps pP.tables eE below (T35_.setTop (mkF mM 144 #[.val (.int p1), .val (.int p2), .val (.int p3), .val (.int p4), .val (.int (1 : Int32)), .val (.ref b1_), .val (.ref b29_), .unset, .unset, .unset, .unset] [])) tT
      refine XS.iload X35_.here hx rfl (Jvm.hb hby at_144) rfl ?_
      show Steps pP.tables eE below (T35_.setTop (mkF mM 146 #[.val (.int p1), .val (.int p2), .val (.int p3), .val (.int p4), .val (.int (1 : Int32)), .val (.ref b1_), .val (.ref b29_), .unset, .unset, .unset, .unset] [(.int (1 : Int32))])) tT
      refine XS.iconst X35_.here hx rfl (Jvm.hb hby at_146) ?_
      show Steps pP.tables eE below (T35_.setTop (mkF mM 147 #[.val (.int p1), .val (.int p2), .val (.int p3), .val (.int p4), .val (.int (1 : Int32)), .val (.ref b1_), .val (.ref b29_), .unset, .unset, .unset, .unset] [(.int (4 : Int32)), (.int (1 : Int32))])) tT
      refine XS.icmpYes X35_.here hx rfl (pc0 := 147) (pc' := 158) rfl (Jvm.hb hby at_147) rfl (flt ((by decide) : ¬ ((4 : Int32) < (1 : Int32)))).2.2.2 (by decide) (by decide) ?_
      show Steps pP.tables eE below (T35_.setTop (mkF mM 158 #[.val (.int p1), .val (.int p2), .val (.int p3), .val (.int p4), .val (.int (1 : Int32)), .val (.ref b1_), .val (.ref b29_), .unset, .unset, .unset, .unset] [])) tT
      refine XS.iload X35_.here hx rfl (Jvm.hb hby at_158) rfl ?_
      show Steps pP.tables eE below (T35_.setTop (mkF mM 160 #[.val (.int p1), .val (.int p2), .val (.int p3), .val (.int p4), .val (.int (1 : Int32)), .val (.ref b1_), .val (.ref b29_), .unset, .unset, .unset, .unset] [(.int (1 : Int32))])) tT
      refine XS.iconst X35_.here hx rfl (Jvm.hb hby at_160) ?_
      show Steps pP.tables eE below (T35_.setTop (mkF mM 161 #[.val (.int p1), .val (.int p2), .val (.int p3), .val (.int p4), .val (.int (1 : Int32)), .val (.ref b1_), .val (.ref b29_), .unset, .unset, .unset, .unset] [(.int (5 : Int32)), (.int (1 : Int32))])) tT
      refine XS.icmpYes X35_.here hx rfl (pc0 := 161) (pc' := 172) rfl (Jvm.hb hby at_161) rfl (flt ((by decide) : ¬ ((5 : Int32) < (1 : Int32)))).2.2.2 (by decide) (by decide) ?_
      show Steps pP.tables eE below (T35_.setTop (mkF mM 172 #[.val (.int p1), .val (.int p2), .val (.int p3), .val (.int p4), .val (.int (1 : Int32)), .val (.ref b1_), .val (.ref b29_), .unset, .unset, .unset, .unset] [])) tT
      refine XS.iload X35_.here hx rfl (Jvm.hb hby at_172) rfl ?_
      show Steps pP.tables eE below (T35_.setTop (mkF mM 174 #[.val (.int p1), .val (.int p2), .val (.int p3), .val (.int p4), .val (.int (1 : Int32)), .val (.ref b1_), .val (.ref b29_), .unset, .unset, .unset, .unset] [(.int (1 : Int32))])) tT
      refine XS.bipush X35_.here hx rfl (Jvm.hb hby at_174) ?_
      show Steps pP.tables eE below (T35_.setTop (mkF mM 176 #[.val (.int p1), .val (.int p2), .val (.int p3), .val (.int p4), .val (.int (1 : Int32)), .val (.ref b1_), .val (.ref b29_), .unset, .unset, .unset, .unset] [(.int (6 : Int32)), (.int (1 : Int32))])) tT
      refine XS.icmpYes X35_.here hx rfl (pc0 := 176) (pc' := 189) rfl (Jvm.hb hby at_176) rfl (flt ((by decide) : ¬ ((6 : Int32) < (1 : Int32)))).2.2.2 (by decide) (by decide) ?_
      show Steps pP.tables eE below (T35_.setTop (mkF mM 189 #[.val (.int p1), .val (.int p2), .val (.int p3), .val (.int p4), .val (.int (1 : Int32)), .val (.ref b1_), .val (.ref b29_), .unset, .unset, .unset, .unset] [])) tT
      refine XS.iload X35_.here hx rfl (Jvm.hb hby at_189) rfl ?_
      show Steps pP.tables eE below (T35_.setTop (mkF mM 191 #[.val (.int p1), .val (.int p2), .val (.int p3), .val (.int p4), .val (.int (1 : Int32)), .val (.ref b1_), .val (.ref b29_), .unset, .unset, .unset, .unset] [(.int (1 : Int32))])) tT
      refine XS.bipush X35_.here hx rfl (Jvm.hb hby at_191) ?_
      show Steps pP.tables eE below (T35_.setTop (mkF mM 193 #[.val (.int p1), .val (.int p2), .val (.int p3), .val (.int p4), .val (.int (1 : Int32)), .val (.ref b1_), .val (.ref b29_), .unset, .unset, .unset, .unset] [(.int (7 : Int32)), (.int (1 : Int32))])) tT
      refine XS.icmpYes X35_.here hx rfl (pc0 := 193) (pc' := 206) rfl (Jvm.hb hby at_193) rfl (flt ((by decide) : ¬ ((7 : Int32) < (1 : Int32)))).2.2.2 (by decide) (by decide) ?_
      show Steps pP.tables eE below (T35_.setTop (mkF mM 206 #[.val (.int p1), .val (.int p2), .val (.int p3), .val (.int p4), .val (.int (1 : Int32)), .val (.ref b1_), .val (.ref b29_), .unset, .unset, .unset, .unset] [])) tT
      refine XS.iloadN X35_.here hx rfl (Jvm.hb hby at_206) rfl ?_
      show Steps pP.tables eE below (T35_.setTop (mkF mM 207 #[.val (.int p1), .val (.int p2), .val (.int p3), .val (.int p4), .val (.int (1 : Int32)), .val (.ref b1_), .val (.ref b29_), .unset, .unset, .unset, .unset] [(.int p4)])) tT
      refine XS.sipush X35_.here hx rfl (Jvm.hb hby at_207) ?_
      show Steps pP.tables eE below (T35_.setTop (mkF mM 210 #[.val (.int p1), .val (.int p2), .val (.int p3), .val (.int p4), .val (.int (1 : Int32)), .val (.ref b1_), .val (.ref b29_), .unset, .unset, .unset, .unset] [(.int (255 : Int32)), (.int p4)])) tT
      refine XS.iand X35_.here hx rfl (Jvm.hb hby at_210) rfl ?_
      show Steps pP.tables eE below (T35_.setTop (mkF mM 211 #[.val (.int p1), .val (.int p2), .val (.int p3), .val (.int p4), .val (.int (1 : Int32)), .val (.ref b1_), .val (.ref b29_), .unset, .unset, .unset, .unset] [(.int (p4 &&& (255 : Int32)))])) tT
      refine XS.istore X35_.here hx rfl (Jvm.hb hby at_211) rfl (l' := #[.val (.int p1), .val (.int p2), .val (.int p3), .val (.int p4), .val (.int (1 : Int32)), .val (.ref b1_), .val (.ref b29_), .val (.int (p4 &&& (255 : Int32))), .unset, .unset, .unset]) rfl ?_
      show Steps pP.tables eE below (T35_.setTop (mkF mM 213 #[.val (.int p1), .val (.int p2), .val (.int p3), .val (.int p4), .val (.int (1 : Int32)), .val (.ref b1_), .val (.ref b29_), .val (.int (p4 &&& (255 : Int32))), .unset, .unset, .unset] [])) tT
      exact kK
    show own_Fin pP eE below _ (T35_.setTop (mkF mM 213 #[.val (.int p1), .val (.int p2), .val (.int p3), .val (.int p4), .val (.int (1 : Int32)), .val (.ref b1_), .val (.ref b29_), .val (.int (p4 &&& (255 : Int32))), .unset, .unset, .unset] []))
    generalize hvq : (p4 &&& (255 : Int32)) = vq
    show own_Fin pP eE below _ (T35_.setTop (mkF mM 213 #[.val (.int p1), .val (.int p2), .val (.int p3), .val (.int p4), .val (.int (1 : Int32)), .val (.ref b1_), .val (.ref b29_), .val (.int vq), .unset, .unset, .unset] []))
    have hq := own_m255 p4
    rw [hvq] at hq
    have Vp : Arv Z h35_ b29_ k29_ .byte (1 : Int32) (([x0] : List Int32).map Value.int) (.int (0 : Int32)) := by have q := V35_; rw [hy0] at q; exact q
    refine own_fin (b := T35_.setTop (mkF mM 215 #[.val (.int p1), .val (.int p2), .val (.int p3), .val (.int p4), .val (.int (1 : Int32)), .val (.ref b1_), .val (.ref b29_), .val (.int vq), .unset, .unset, .unset] [(.ref b29_)])) (fun tT kK => ?_) ?_
    · show Steps pP.tables eE below (T35_.setTop (mkF mM 213 #[.val (.int p1), .val (.int p2), .val (.int p3), .val (.int p4), .val (.int (1 : Int32)), .val (.ref b1_), .val (.ref b29_), .val (.int vq), .unset, .unset, .unset] [])) tT
      refine XS.aload X35_.here hx rfl (Jvm.hb hby at_213) rfl rfl ?_
      show Steps pP.tables eE below (T35_.setTop (mkF mM 215 #[.val (.int p1), .val (.int p2), .val (.int p3), .val (.int p4), .val (.int (1 : Int32)), .val (.ref b1_), .val (.ref b29_), .val (.int vq), .unset, .unset, .unset] [(.ref b29_)])) tT
      exact kK
    obtain ⟨_, _, ⟨T37_, L37_, k37_, n37_⟩, -, X37_, ⟨Lc37_, hQ37_, l37_, y37_, z37_⟩, st37_⟩ := Jvm.LawKit.callS X35_ hx (y := (⟨"com/example/needlework/needlework/BoyerMoore", "rightmost", "([B)[I"⟩ : MethodName)) hown (mvT hZ (hw _ (List.mem_of_getElem? (i := 1) rfl))) (mvT hZ (hw _ (List.mem_of_getElem? (i := 2) rfl))) (mvT hZ (hw _ (List.mem_of_getElem? (i := 3) rfl))) (mvT hZ (hw _ (List.mem_of_getElem? (i := 4) rfl))) (by decide) (backOf (W := 0) (rm_right lL Z a0 hw [] b29_ k29_ (1 : Int32) ([x0] : List Int32) h35_ n0 (Nat.le_trans Z0 K35_.1) Vp) hZ (hw _ (List.mem_of_getElem? (i := 4) rfl)) (hw _ (List.mem_of_getElem? (i := 3) rfl)) (by decide) (by decide)) (g := (mkF mM 215 #[.val (.int p1), .val (.int p2), .val (.int p3), .val (.int p4), .val (.int (1 : Int32)), .val (.ref b1_), .val (.ref b29_), .val (.int vq), .unset, .unset, .unset] [(.ref b29_)])) rfl (by rw [hml]; rfl) (argsL := [(.ref b29_)]) (rest := []) (lenOf own_pd1 rfl) rfl (by show 2 * 0 + _ ≤ _; exact Nat.le_of_eq rfl) (Jvm.hb hby at_215) (fun _ _ => ⟨rfl, e35_, (by decide : 2 + 1 ≤ _), (by decide : 9 + 256 ≤ _)⟩)
    dsimp only [Pt.U, Pt.locs, Pt.cells, Pt.slots] at X37_ l37_ y37_ z37_ st37_ hQ37_
    subst l37_ y37_ z37_
    obtain ⟨b_37_, rfl, N37_q, p37__0, p37__1, p37__2⟩ := hQ37_
    have N37_ := Fr.app N35_ N37_q
    have sz_b_37_ : h0.size ≤ b_37_ := Nat.le_trans K35_.1 p37__1
    have ge_b_37_ : n0 ≤ b_37_ := Nat.le_trans Z0 sz_b_37_
    have ne38_ : b1_ ≠ b_37_ := Nat.ne_of_lt (Nat.lt_of_lt_of_le fc36_.lt p37__1)
    have ne39_ : b29_ ≠ b_37_ := Nat.ne_of_lt (Nat.lt_of_lt_of_le V35_.lt p37__1)
    have fc40_ := fc36_.keep p37__0 nin0
    have fc41_ := V35_.keep p37__0 nin0
    have K37_ := K35_.trans p37__0 all0
    refine own_fin (fun tT kK => st37_ tT kK) ?_
    show own_Fin pP eE below _ (T37_.setTop (mkF mM 218 #[.val (.int p1), .val (.int p2), .val (.int p3), .val (.int p4), .val (.int (1 : Int32)), .val (.ref b1_), .val (.ref b29_), .val (.int vq), .unset, .unset, .unset] [(.ref b_37_)]))
    refine own_fin (b := T37_.setTop (mkF mM 227 #[.val (.int p1), .val (.int p2), .val (.int p3), .val (.int p4), .val (.int (1 : Int32)), .val (.ref b1_), .val (.ref b29_), .val (.int vq), .val (.ref b_37_), .unset, .unset] [(.ref b_37_)])) (fun tT kK => ?_) ?_
    · show Steps pP.tables eE below (T37_.setTop (mkF mM 218 #[.val (.int p1), .val (.int p2), .val (.int p3), .val (.int p4), .val (.int (1 : Int32)), .val (.ref b1_), .val (.ref b29_), .val (.int vq), .unset, .unset, .unset] [(.ref b_37_)])) tT
      refine XS.astore X37_.here hx rfl (Jvm.hb hby at_218) rfl rfl (l' := #[.val (.int p1), .val (.int p2), .val (.int p3), .val (.int p4), .val (.int (1 : Int32)), .val (.ref b1_), .val (.ref b29_), .val (.int vq), .val (.ref b_37_), .unset, .unset]) rfl ?_
      show Steps pP.tables eE below (T37_.setTop (mkF mM 220 #[.val (.int p1), .val (.int p2), .val (.int p3), .val (.int p4), .val (.int (1 : Int32)), .val (.ref b1_), .val (.ref b29_), .val (.int vq), .val (.ref b_37_), .unset, .unset] [])) tT
      refine XS.aload X37_.here hx rfl (Jvm.hb hby at_220) rfl rfl ?_
      show Steps pP.tables eE below (T37_.setTop (mkF mM 222 #[.val (.int p1), .val (.int p2), .val (.int p3), .val (.int p4), .val (.int (1 : Int32)), .val (.ref b1_), .val (.ref b29_), .val (.int vq), .val (.ref b_37_), .unset, .unset] [(.ref b_37_)])) tT
      refine XS.ifnullNo X37_.here hx rfl (Jvm.hb hby at_222) rfl ?_
      show Steps pP.tables eE below (T37_.setTop (mkF mM 225 #[.val (.int p1), .val (.int p2), .val (.int p3), .val (.int p4), .val (.int (1 : Int32)), .val (.ref b1_), .val (.ref b29_), .val (.int vq), .val (.ref b_37_), .unset, .unset] [])) tT
      refine XS.aload X37_.here hx rfl (Jvm.hb hby at_225) rfl rfl ?_
      show Steps pP.tables eE below (T37_.setTop (mkF mM 227 #[.val (.int p1), .val (.int p2), .val (.int p3), .val (.int p4), .val (.int (1 : Int32)), .val (.ref b1_), .val (.ref b29_), .val (.int vq), .val (.ref b_37_), .unset, .unset] [(.ref b_37_)])) tT
      exact kK
    obtain ⟨cl42_, Ar42_, Sz42_, Nn42_, -⟩ := id p37__2
    refine own_fin (b := T37_.setTop (mkF mM 240 #[.val (.int p1), .val (.int p2), .val (.int p3), .val (.int p4), .val (.int (1 : Int32)), .val (.ref b1_), .val (.ref b29_), .val (.int vq), .val (.ref b_37_), .unset, .unset] [(.int vq), (.ref b_37_)])) (fun tT kK => ?_) ?_
    · show Steps pP.tables eE below (T37_.setTop (mkF mM 227 #[.val (.int p1), .val (.int p2), .val (.int p3), .val (.int p4), .val (.int (1 : Int32)), .val (.ref b1_), .val (.ref b29_), .val (.int vq), .val (.ref b_37_), .unset, .unset] [(.ref b_37_)])) tT
      refine X37_.arraylength hx (own_rw rfl Ar42_.1) (State.isArrayOf_alike hZ.alike Ar42_.2.1) (g := (mkF mM 227 #[.val (.int p1), .val (.int p2), .val (.int p3), .val (.int p4), .val (.int (1 : Int32)), .val (.ref b1_), .val (.ref b29_), .val (.int vq), .val (.ref b_37_), .unset, .unset] [(.ref b_37_)])) rfl rfl (Jvm.hb hby at_227) _ ?_
      rw [len_of Sz42_ Nn42_]
      show Steps pP.tables eE below (T37_.setTop (mkF mM 228 #[.val (.int p1), .val (.int p2), .val (.int p3), .val (.int p4), .val (.int (1 : Int32)), .val (.ref b1_), .val (.ref b29_), .val (.int vq), .val (.ref b_37_), .unset, .unset] [(.int (256 : Int32))])) tT
      refine XS.sipush X37_.here hx rfl (Jvm.hb hby at_228) ?_
      show Steps pP.tables eE below (T37_.setTop (mkF mM 231 #[.val (.int p1), .val (.int p2), .val (.int p3), .val (.int p4), .val (.int (1 : Int32)), .val (.ref b1_), .val (.ref b29_), .val (.int vq), .val (.ref b_37_), .unset, .unset] [(.int (256 : Int32)), (.int (256 : Int32))])) tT
      refine XS.icmpYes X37_.here hx rfl (pc0 := 231) (pc' := 236) rfl (Jvm.hb hby at_231) rfl (teq ((by decide) : (256 : Int32) = (256 : Int32))).1 (by decide) (by decide) ?_
      show Steps pP.tables eE below (T37_.setTop (mkF mM 236 #[.val (.int p1), .val (.int p2), .val (.int p3), .val (.int p4), .val (.int (1 : Int32)), .val (.ref b1_), .val (.ref b29_), .val (.int vq), .val (.ref b_37_), .unset, .unset] [])) tT
      refine XS.aload X37_.here hx rfl (Jvm.hb hby at_236) rfl rfl ?_
      show Steps pP.tables eE below (T37_.setTop (mkF mM 238 #[.val (.int p1), .val (.int p2), .val (.int p3), .val (.int p4), .val (.int (1 : Int32)), .val (.ref b1_), .val (.ref b29_), .val (.int vq), .val (.ref b_37_), .unset, .unset] [(.ref b_37_)])) tT
      refine XS.iload X37_.here hx rfl (Jvm.hb hby at_238) rfl ?_
      show Steps pP.tables eE below (T37_.setTop (mkF mM 240 #[.val (.int p1), .val (.int p2), .val (.int p3), .val (.int p4), .val (.int (1 : Int32)), .val (.ref b1_), .val (.ref b29_), .val (.int vq), .val (.ref b_37_), .unset, .unset] [(.int vq), (.ref b_37_)])) tT
      exact kK
    obtain ⟨cl43_, Ar43_, Sz43_, Nn43_, Hh43_⟩ := id p37__2
    have hin43_ : ¬ (vq < 0 ∨ cl43_.slots.size ≤ (vq).toNatClampNeg) := inb_of Sz43_ hq
    have hat43_ : cl43_.slots[(vq).toNatClampNeg]? = some (.int ((own_ft ([x0] : List Int32) (1 : Int32).toNatClampNeg) vq)) := Hh43_ _ hin43_
    refine own_fin (b := T37_.setTop (mkF mM 247 #[.val (.int p1), .val (.int p2), .val (.int p3), .val (.int p4), .val (.int (1 : Int32)), .val (.ref b1_), .val (.ref b29_), .val (.int vq), .val (.ref b_37_), .unset, .unset] [(.int vq), (.int (1 : Int32)), (.ref b1_), (.int ((own_ft ([x0] : List Int32) (1 : Int32).toNatClampNeg) vq))])) (fun tT kK => ?_) ?_
    · show Steps pP.tables eE below (T37_.setTop (mkF mM 240 #[.val (.int p1), .val (.int p2), .val (.int p3), .val (.int p4), .val (.int (1 : Int32)), .val (.ref b1_), .val (.ref b29_), .val (.int vq), .val (.ref b_37_), .unset, .unset] [(.int vq), (.ref b_37_)])) tT
      refine X37_.iaload hx (j := vq) (v := (.int ((own_ft ([x0] : List Int32) (1 : Int32).toNatClampNeg) vq))) (own_rw rfl Ar43_.1) (State.isArrayOf_alike hZ.alike Ar43_.2.1) Ar43_.2.2 hin43_ hat43_ (g := (mkF mM 240 #[.val (.int p1), .val (.int p2), .val (.int p3), .val (.int p4), .val (.int (1 : Int32)), .val (.ref b1_), .val (.ref b29_), .val (.int vq), .val (.ref b_37_), .unset, .unset] [(.int vq), (.ref b_37_)])) rfl rfl (Jvm.hb hby at_240) _ ?_
      show Steps pP.tables eE below (T37_.setTop (mkF mM 241 #[.val (.int p1), .val (.int p2), .val (.int p3), .val (.int p4), .val (.int (1 : Int32)), .val (.ref b1_), .val (.ref b29_), .val (.int vq), .val (.ref b_37_), .unset, .unset] [(.int ((own_ft ([x0] : List Int32) (1 : Int32).toNatClampNeg) vq))])) tT
      refine XS.aload X37_.here hx rfl (Jvm.hb hby at_241) rfl rfl ?_
      show Steps pP.tables eE below (T37_.setTop (mkF mM 243 #[.val (.int p1), .val (.int p2), .val (.int p3), .val (.int p4), .val (.int (1 : Int32)), .val (.ref b1_), .val (.ref b29_), .val (.int vq), .val (.ref b_37_), .unset, .unset] [(.ref b1_), (.int ((own_ft ([x0] : List Int32) (1 : Int32).toNatClampNeg) vq))])) tT
      refine XS.iload X37_.here hx rfl (Jvm.hb hby at_243) rfl ?_
      show Steps pP.tables eE below (T37_.setTop (mkF mM 245 #[.val (.int p1), .val (.int p2), .val (.int p3), .val (.int p4), .val (.int (1 : Int32)), .val (.ref b1_), .val (.ref b29_), .val (.int vq), .val (.ref b_37_), .unset, .unset] [(.int (1 : Int32)), (.ref b1_), (.int ((own_ft ([x0] : List Int32) (1 : Int32).toNatClampNeg) vq))])) tT
      refine XS.iload X37_.here hx rfl (Jvm.hb hby at_245) rfl ?_
      show Steps pP.tables eE below (T37_.setTop (mkF mM 247 #[.val (.int p1), .val (.int p2), .val (.int p3), .val (.int p4), .val (.int (1 : Int32)), .val (.ref b1_), .val (.ref b29_), .val (.int vq), .val (.ref b_37_), .unset, .unset] [(.int vq), (.int (1 : Int32)), (.ref b1_), (.int ((own_ft ([x0] : List Int32) (1 : Int32).toNatClampNeg) vq))])) tT
      exact kK
    obtain ⟨_, _, ⟨T44_, L44_, k44_, n44_⟩, -, X44_, ⟨Lc44_, hQ44_, l44_, y44_, z44_⟩, st44_⟩ := Jvm.LawKit.callS X37_ hx (y := (⟨"com/example/needlework/needlework/BoyerMooreRightmostPinLaw", "ref", "([BII)I"⟩ : MethodName)) hown (mvT hZ (hw _ (List.mem_of_getElem? (i := 10) rfl))) (mvT hZ (hw _ (List.mem_of_getElem? (i := 11) rfl))) (mvT hZ (hw _ (List.mem_of_getElem? (i := 12) rfl))) (mvT hZ (hw _ (List.mem_of_getElem? (i := 13) rfl))) (by decide) (backOf (W := 1) (rm_ref lL Z a0 hw [] b1_ k1_ (1 : Int32) vq x0 x1 x2 x3 x4 x5 x6 x7 T37_.heap n0 (Nat.le_trans Z0 K37_.1) fc40_) hZ (hw _ (List.mem_of_getElem? (i := 13) rfl)) (hw _ (List.mem_of_getElem? (i := 12) rfl)) (by decide) (by decide)) (g := (mkF mM 247 #[.val (.int p1), .val (.int p2), .val (.int p3), .val (.int p4), .val (.int (1 : Int32)), .val (.ref b1_), .val (.ref b29_), .val (.int vq), .val (.ref b_37_), .unset, .unset] [(.int vq), (.int (1 : Int32)), (.ref b1_), (.int ((own_ft ([x0] : List Int32) (1 : Int32).toNatClampNeg) vq))])) rfl (by rw [hml]; rfl) (argsL := [(.ref b1_), (.int (1 : Int32)), (.int vq)]) (rest := [(.int ((own_ft ([x0] : List Int32) (1 : Int32).toNatClampNeg) vq))]) (lenOf own_pd2 rfl) rfl (by show 2 * 0 + _ ≤ _; exact Nat.le_of_eq rfl) (Jvm.hb hby at_247) (fun _ _ => ⟨rfl, rfl, (by decide : 3 + 0 ≤ _), (by decide : 265 + 0 ≤ _)⟩)
    dsimp only [Pt.U, Pt.locs, Pt.cells, Pt.slots] at X44_ l44_ y44_ z44_ st44_ hQ44_
    subst l44_ y44_ z44_
    obtain ⟨rfl, N44_q, p44__0⟩ := hQ44_
    have N44_ := Fr.app N37_ N44_q
    refine own_fin (fun tT kK => st44_ tT kK) ?_
    show own_Fin pP eE below _ (T44_.setTop (mkF mM 250 #[.val (.int p1), .val (.int p2), .val (.int p3), .val (.int p4), .val (.int (1 : Int32)), .val (.ref b1_), .val (.ref b29_), .val (.int vq), .val (.ref b_37_), .unset, .unset] [(.int (own_ref (1 : Int32) vq x0 x1 x2 x3 x4 x5 x6 x7)), (.int ((own_ft ([x0] : List Int32) (1 : Int32).toNatClampNeg) vq))]))
    refine own_fin (b := T44_.setTop (mkF mM 271 #[.val (.int p1), .val (.int p2), .val (.int p3), .val (.int p4), .val (.int (1 : Int32)), .val (.ref b1_), .val (.ref b29_), .val (.int vq), .val (.ref b_37_), .val (.int (1 : Int32)), .unset] [(.int (0 : Int32)), (.ref b1_)])) (fun tT kK => ?_) ?_
    · show Steps pP.tables eE below (T44_.setTop (mkF mM 250 #[.val (.int p1), .val (.int p2), .val (.int p3), .val (.int p4), .val (.int (1 : Int32)), .val (.ref b1_), .val (.ref b29_), .val (.int vq), .val (.ref b_37_), .unset, .unset] [(.int (own_ref (1 : Int32) vq x0 x1 x2 x3 x4 x5 x6 x7)), (.int ((own_ft ([x0] : List Int32) (1 : Int32).toNatClampNeg) vq))])) tT
      refine XS.icmpNo X44_.here hx rfl (Jvm.hb hby at_250) rfl (teq (own_e1 vq x0 x1 x2 x3 x4 x5 x6 x7 : ((own_ft ([x0] : List Int32) (1 : Int32).toNatClampNeg) vq) = (own_ref (1 : Int32) vq x0 x1 x2 x3 x4 x5 x6 x7))).2 ?_
      show Steps pP.tables eE below (T44_.setTop (mkF mM 253 #[.val (.int p1), .val (.int p2), .val (.int p3), .val (.int p4), .val (.int (1 : Int32)), .val (.ref b1_), .val (.ref b29_), .val (.int vq), .val (.ref b_37_), .unset, .unset] [])) tT
      refine XS.iconst X44_.here hx rfl (Jvm.hb hby at_253) ?_
      show Steps pP.tables eE below (T44_.setTop (mkF mM 254 #[.val (.int p1), .val (.int p2), .val (.int p3), .val (.int p4), .val (.int (1 : Int32)), .val (.ref b1_), .val (.ref b29_), .val (.int vq), .val (.ref b_37_), .unset, .unset] [(.int (1 : Int32))])) tT
      refine XS.goto X44_.here hx rfl (pc0 := 254) (pc' := 258) rfl (Jvm.hb hby at_254) (by decide) (by decide) ?_
      show Steps pP.tables eE below (T44_.setTop (mkF mM 258 #[.val (.int p1), .val (.int p2), .val (.int p3), .val (.int p4), .val (.int (1 : Int32)), .val (.ref b1_), .val (.ref b29_), .val (.int vq), .val (.ref b_37_), .unset, .unset] [(.int (1 : Int32))])) tT
      refine XS.istore X44_.here hx rfl (Jvm.hb hby at_258) rfl (l' := #[.val (.int p1), .val (.int p2), .val (.int p3), .val (.int p4), .val (.int (1 : Int32)), .val (.ref b1_), .val (.ref b29_), .val (.int vq), .val (.ref b_37_), .val (.int (1 : Int32)), .unset]) rfl ?_
      show Steps pP.tables eE below (T44_.setTop (mkF mM 260 #[.val (.int p1), .val (.int p2), .val (.int p3), .val (.int p4), .val (.int (1 : Int32)), .val (.ref b1_), .val (.ref b29_), .val (.int vq), .val (.ref b_37_), .val (.int (1 : Int32)), .unset] [])) tT
      refine XS.iload X44_.here hx rfl (Jvm.hb hby at_260) rfl ?_
      show Steps pP.tables eE below (T44_.setTop (mkF mM 262 #[.val (.int p1), .val (.int p2), .val (.int p3), .val (.int p4), .val (.int (1 : Int32)), .val (.ref b1_), .val (.ref b29_), .val (.int vq), .val (.ref b_37_), .val (.int (1 : Int32)), .unset] [(.int (1 : Int32))])) tT
      refine XS.ifNo X44_.here hx rfl (Jvm.hb hby at_262) rfl ((if0 _ _).trans (tlt ((by decide) : (0 : Int32) < (1 : Int32))).2.2.2) ?_
      show Steps pP.tables eE below (T44_.setTop (mkF mM 265 #[.val (.int p1), .val (.int p2), .val (.int p3), .val (.int p4), .val (.int (1 : Int32)), .val (.ref b1_), .val (.ref b29_), .val (.int vq), .val (.ref b_37_), .val (.int (1 : Int32)), .unset] [])) tT
      refine XS.aload X44_.here hx rfl (Jvm.hb hby at_265) rfl rfl ?_
      show Steps pP.tables eE below (T44_.setTop (mkF mM 267 #[.val (.int p1), .val (.int p2), .val (.int p3), .val (.int p4), .val (.int (1 : Int32)), .val (.ref b1_), .val (.ref b29_), .val (.int vq), .val (.ref b_37_), .val (.int (1 : Int32)), .unset] [(.ref b1_)])) tT
      refine XS.iload X44_.here hx rfl (Jvm.hb hby at_267) rfl ?_
      show Steps pP.tables eE below (T44_.setTop (mkF mM 269 #[.val (.int p1), .val (.int p2), .val (.int p3), .val (.int p4), .val (.int (1 : Int32)), .val (.ref b1_), .val (.ref b29_), .val (.int vq), .val (.ref b_37_), .val (.int (1 : Int32)), .unset] [(.int (1 : Int32)), (.ref b1_)])) tT
      refine XS.iconst X44_.here hx rfl (Jvm.hb hby at_269) ?_
      show Steps pP.tables eE below (T44_.setTop (mkF mM 270 #[.val (.int p1), .val (.int p2), .val (.int p3), .val (.int p4), .val (.int (1 : Int32)), .val (.ref b1_), .val (.ref b29_), .val (.int vq), .val (.ref b_37_), .val (.int (1 : Int32)), .unset] [(.int (1 : Int32)), (.int (1 : Int32)), (.ref b1_)])) tT
      refine XS.isub X44_.here hx rfl (Jvm.hb hby at_270) rfl ?_
      show Steps pP.tables eE below (T44_.setTop (mkF mM 271 #[.val (.int p1), .val (.int p2), .val (.int p3), .val (.int p4), .val (.int (1 : Int32)), .val (.ref b1_), .val (.ref b29_), .val (.int vq), .val (.ref b_37_), .val (.int (1 : Int32)), .unset] [(.int (0 : Int32)), (.ref b1_)])) tT
      exact kK
    obtain ⟨cl45_, Ar45_, qk45_, Sz45_, Nn45_, Hh45_, Gg45_⟩ := id fc40_
    have hin46_ : ¬ ((0 : Int32) < 0 ∨ cl45_.slots.size ≤ ((0 : Int32)).toNatClampNeg) := inb_of Sz45_ ⟨by decide, by decide⟩
    have hat46_ : cl45_.slots[((0 : Int32)).toNatClampNeg]? = some (.int x0) := Hh45_.at hin46_ rfl
    refine own_fin (b := T44_.setTop (mkF mM 287 #[.val (.int p1), .val (.int p2), .val (.int p3), .val (.int p4), .val (.int (1 : Int32)), .val (.ref b1_), .val (.ref b29_), .val (.int vq), .val (.ref b_37_), .val (.int (1 : Int32)), .val (.int (x0 &&& (255 : Int32)))] [(.int (x0 &&& (255 : Int32))), (.ref b_37_)])) (fun tT kK => ?_) ?_
    · show Steps pP.tables eE below (T44_.setTop (mkF mM 271 #[.val (.int p1), .val (.int p2), .val (.int p3), .val (.int p4), .val (.int (1 : Int32)), .val (.ref b1_), .val (.ref b29_), .val (.int vq), .val (.ref b_37_), .val (.int (1 : Int32)), .unset] [(.int (0 : Int32)), (.ref b1_)])) tT
      refine X44_.baloadBytes hx (j := (0 : Int32)) (v := (.int x0)) (own_rw p44__0 Ar45_.1) (State.isArrayOf_alike hZ.alike Ar45_.2.1) Ar45_.2.2 hin46_ hat46_ (g := (mkF mM 271 #[.val (.int p1), .val (.int p2), .val (.int p3), .val (.int p4), .val (.int (1 : Int32)), .val (.ref b1_), .val (.ref b29_), .val (.int vq), .val (.ref b_37_), .val (.int (1 : Int32)), .unset] [(.int (0 : Int32)), (.ref b1_)])) rfl rfl (Jvm.hb hby at_271) _ ?_
      show Steps pP.tables eE below (T44_.setTop (mkF mM 272 #[.val (.int p1), .val (.int p2), .val (.int p3), .val (.int p4), .val (.int (1 : Int32)), .val (.ref b1_), .val (.ref b29_), .val (.int vq), .val (.ref b_37_), .val (.int (1 : Int32)), .unset] [(.int x0)])) tT
      refine XS.sipush X44_.here hx rfl (Jvm.hb hby at_272) ?_
      show Steps pP.tables eE below (T44_.setTop (mkF mM 275 #[.val (.int p1), .val (.int p2), .val (.int p3), .val (.int p4), .val (.int (1 : Int32)), .val (.ref b1_), .val (.ref b29_), .val (.int vq), .val (.ref b_37_), .val (.int (1 : Int32)), .unset] [(.int (255 : Int32)), (.int x0)])) tT
      refine XS.iand X44_.here hx rfl (Jvm.hb hby at_275) rfl ?_
      show Steps pP.tables eE below (T44_.setTop (mkF mM 276 #[.val (.int p1), .val (.int p2), .val (.int p3), .val (.int p4), .val (.int (1 : Int32)), .val (.ref b1_), .val (.ref b29_), .val (.int vq), .val (.ref b_37_), .val (.int (1 : Int32)), .unset] [(.int (x0 &&& (255 : Int32)))])) tT
      refine XS.istore X44_.here hx rfl (Jvm.hb hby at_276) rfl (l' := #[.val (.int p1), .val (.int p2), .val (.int p3), .val (.int p4), .val (.int (1 : Int32)), .val (.ref b1_), .val (.ref b29_), .val (.int vq), .val (.ref b_37_), .val (.int (1 : Int32)), .val (.int (x0 &&& (255 : Int32)))]) rfl ?_
      show Steps pP.tables eE below (T44_.setTop (mkF mM 278 #[.val (.int p1), .val (.int p2), .val (.int p3), .val (.int p4), .val (.int (1 : Int32)), .val (.ref b1_), .val (.ref b29_), .val (.int vq), .val (.ref b_37_), .val (.int (1 : Int32)), .val (.int (x0 &&& (255 : Int32)))] [])) tT
      refine XS.iload X44_.here hx rfl (Jvm.hb hby at_278) rfl ?_
      show Steps pP.tables eE below (T44_.setTop (mkF mM 280 #[.val (.int p1), .val (.int p2), .val (.int p3), .val (.int p4), .val (.int (1 : Int32)), .val (.ref b1_), .val (.ref b29_), .val (.int vq), .val (.ref b_37_), .val (.int (1 : Int32)), .val (.int (x0 &&& (255 : Int32)))] [(.int (1 : Int32))])) tT
      refine XS.ifNo X44_.here hx rfl (Jvm.hb hby at_280) rfl ((if0 _ _).trans (feq ((by decide) : ¬ ((1 : Int32) = (0 : Int32)))).1) ?_
      show Steps pP.tables eE below (T44_.setTop (mkF mM 283 #[.val (.int p1), .val (.int p2), .val (.int p3), .val (.int p4), .val (.int (1 : Int32)), .val (.ref b1_), .val (.ref b29_), .val (.int vq), .val (.ref b_37_), .val (.int (1 : Int32)), .val (.int (x0 &&& (255 : Int32)))] [])) tT
      refine XS.aload X44_.here hx rfl (Jvm.hb hby at_283) rfl rfl ?_
      show Steps pP.tables eE below (T44_.setTop (mkF mM 285 #[.val (.int p1), .val (.int p2), .val (.int p3), .val (.int p4), .val (.int (1 : Int32)), .val (.ref b1_), .val (.ref b29_), .val (.int vq), .val (.ref b_37_), .val (.int (1 : Int32)), .val (.int (x0 &&& (255 : Int32)))] [(.ref b_37_)])) tT
      refine XS.iload X44_.here hx rfl (Jvm.hb hby at_285) rfl ?_
      show Steps pP.tables eE below (T44_.setTop (mkF mM 287 #[.val (.int p1), .val (.int p2), .val (.int p3), .val (.int p4), .val (.int (1 : Int32)), .val (.ref b1_), .val (.ref b29_), .val (.int vq), .val (.ref b_37_), .val (.int (1 : Int32)), .val (.int (x0 &&& (255 : Int32)))] [(.int (x0 &&& (255 : Int32))), (.ref b_37_)])) tT
      exact kK
    obtain ⟨cl47_, Ar47_, Sz47_, Nn47_, Hh47_⟩ := id p37__2
    have hin47_ : ¬ ((x0 &&& (255 : Int32)) < 0 ∨ cl47_.slots.size ≤ ((x0 &&& (255 : Int32))).toNatClampNeg) := inb_of Sz47_ (own_m255 x0)
    have hat47_ : cl47_.slots[((x0 &&& (255 : Int32))).toNatClampNeg]? = some (.int ((own_ft ([x0] : List Int32) (1 : Int32).toNatClampNeg) (x0 &&& (255 : Int32)))) := Hh47_ _ hin47_
    refine own_fin (b := T44_.setTop (mkF mM 304 #[.val (.int p1), .val (.int p2), .val (.int p3), .val (.int p4), .val (.int (1 : Int32)), .val (.ref b1_), .val (.ref b29_), .val (.int vq), .val (.ref b_37_), .val (.int (1 : Int32)), .val (.int (x0 &&& (255 : Int32)))] [(.int (1 : Int32))])) (fun tT kK => ?_) ?_
    · show Steps pP.tables eE below (T44_.setTop (mkF mM 287 #[.val (.int p1), .val (.int p2), .val (.int p3), .val (.int p4), .val (.int (1 : Int32)), .val (.ref b1_), .val (.ref b29_), .val (.int vq), .val (.ref b_37_), .val (.int (1 : Int32)), .val (.int (x0 &&& (255 : Int32)))] [(.int (x0 &&& (255 : Int32))), (.ref b_37_)])) tT
      refine X44_.iaload hx (j := (x0 &&& (255 : Int32))) (v := (.int ((own_ft ([x0] : List Int32) (1 : Int32).toNatClampNeg) (x0 &&& (255 : Int32))))) (own_rw p44__0 Ar47_.1) (State.isArrayOf_alike hZ.alike Ar47_.2.1) Ar47_.2.2 hin47_ hat47_ (g := (mkF mM 287 #[.val (.int p1), .val (.int p2), .val (.int p3), .val (.int p4), .val (.int (1 : Int32)), .val (.ref b1_), .val (.ref b29_), .val (.int vq), .val (.ref b_37_), .val (.int (1 : Int32)), .val (.int (x0 &&& (255 : Int32)))] [(.int (x0 &&& (255 : Int32))), (.ref b_37_)])) rfl rfl (Jvm.hb hby at_287) _ ?_
      show Steps pP.tables eE below (T44_.setTop (mkF mM 288 #[.val (.int p1), .val (.int p2), .val (.int p3), .val (.int p4), .val (.int (1 : Int32)), .val (.ref b1_), .val (.ref b29_), .val (.int vq), .val (.ref b_37_), .val (.int (1 : Int32)), .val (.int (x0 &&& (255 : Int32)))] [(.int ((own_ft ([x0] : List Int32) (1 : Int32).toNatClampNeg) (x0 &&& (255 : Int32))))])) tT
      refine XS.iload X44_.here hx rfl (Jvm.hb hby at_288) rfl ?_
      show Steps pP.tables eE below (T44_.setTop (mkF mM 290 #[.val (.int p1), .val (.int p2), .val (.int p3), .val (.int p4), .val (.int (1 : Int32)), .val (.ref b1_), .val (.ref b29_), .val (.int vq), .val (.ref b_37_), .val (.int (1 : Int32)), .val (.int (x0 &&& (255 : Int32)))] [(.int (1 : Int32)), (.int ((own_ft ([x0] : List Int32) (1 : Int32).toNatClampNeg) (x0 &&& (255 : Int32))))])) tT
      refine XS.iconst X44_.here hx rfl (Jvm.hb hby at_290) ?_
      show Steps pP.tables eE below (T44_.setTop (mkF mM 291 #[.val (.int p1), .val (.int p2), .val (.int p3), .val (.int p4), .val (.int (1 : Int32)), .val (.ref b1_), .val (.ref b29_), .val (.int vq), .val (.ref b_37_), .val (.int (1 : Int32)), .val (.int (x0 &&& (255 : Int32)))] [(.int (1 : Int32)), (.int (1 : Int32)), (.int ((own_ft ([x0] : List Int32) (1 : Int32).toNatClampNeg) (x0 &&& (255 : Int32))))])) tT
      refine XS.isub X44_.here hx rfl (Jvm.hb hby at_291) rfl ?_
      show Steps pP.tables eE below (T44_.setTop (mkF mM 292 #[.val (.int p1), .val (.int p2), .val (.int p3), .val (.int p4), .val (.int (1 : Int32)), .val (.ref b1_), .val (.ref b29_), .val (.int vq), .val (.ref b_37_), .val (.int (1 : Int32)), .val (.int (x0 &&& (255 : Int32)))] [(.int (0 : Int32)), (.int ((own_ft ([x0] : List Int32) (1 : Int32).toNatClampNeg) (x0 &&& (255 : Int32))))])) tT
      refine XS.icmpNo X44_.here hx rfl (Jvm.hb hby at_292) rfl (teq (own_last ([x0] : List Int32) 0 : ((own_ft ([x0] : List Int32) (1 : Int32).toNatClampNeg) (x0 &&& (255 : Int32))) = (0 : Int32))).2 ?_
      show Steps pP.tables eE below (T44_.setTop (mkF mM 295 #[.val (.int p1), .val (.int p2), .val (.int p3), .val (.int p4), .val (.int (1 : Int32)), .val (.ref b1_), .val (.ref b29_), .val (.int vq), .val (.ref b_37_), .val (.int (1 : Int32)), .val (.int (x0 &&& (255 : Int32)))] [])) tT
      refine XS.iconst X44_.here hx rfl (Jvm.hb hby at_295) ?_
      show Steps pP.tables eE below (T44_.setTop (mkF mM 296 #[.val (.int p1), .val (.int p2), .val (.int p3), .val (.int p4), .val (.int (1 : Int32)), .val (.ref b1_), .val (.ref b29_), .val (.int vq), .val (.ref b_37_), .val (.int (1 : Int32)), .val (.int (x0 &&& (255 : Int32)))] [(.int (1 : Int32))])) tT
      refine XS.goto X44_.here hx rfl (pc0 := 296) (pc' := 300) rfl (Jvm.hb hby at_296) (by decide) (by decide) ?_
      show Steps pP.tables eE below (T44_.setTop (mkF mM 300 #[.val (.int p1), .val (.int p2), .val (.int p3), .val (.int p4), .val (.int (1 : Int32)), .val (.ref b1_), .val (.ref b29_), .val (.int vq), .val (.ref b_37_), .val (.int (1 : Int32)), .val (.int (x0 &&& (255 : Int32)))] [(.int (1 : Int32))])) tT
      refine XS.istore X44_.here hx rfl (Jvm.hb hby at_300) rfl (l' := #[.val (.int p1), .val (.int p2), .val (.int p3), .val (.int p4), .val (.int (1 : Int32)), .val (.ref b1_), .val (.ref b29_), .val (.int vq), .val (.ref b_37_), .val (.int (1 : Int32)), .val (.int (x0 &&& (255 : Int32)))]) rfl ?_
      show Steps pP.tables eE below (T44_.setTop (mkF mM 302 #[.val (.int p1), .val (.int p2), .val (.int p3), .val (.int p4), .val (.int (1 : Int32)), .val (.ref b1_), .val (.ref b29_), .val (.int vq), .val (.ref b_37_), .val (.int (1 : Int32)), .val (.int (x0 &&& (255 : Int32)))] [])) tT
      refine XS.iload X44_.here hx rfl (Jvm.hb hby at_302) rfl ?_
      show Steps pP.tables eE below (T44_.setTop (mkF mM 304 #[.val (.int p1), .val (.int p2), .val (.int p3), .val (.int p4), .val (.int (1 : Int32)), .val (.ref b1_), .val (.ref b29_), .val (.int vq), .val (.ref b_37_), .val (.int (1 : Int32)), .val (.int (x0 &&& (255 : Int32)))] [(.int (1 : Int32))])) tT
      exact kK
    obtain ⟨fs, hr, hrun, hended, hW, hsame⟩ := X44_.leave (v := some (.int (1 : Int32))) (fun h => by rw [Bd.returns] at h; cases h)
    refine ⟨_, _, ?_, hrun, hended, _, _, rfl, ?_, ⟨_, rfl⟩, hW, hsame.mono (by decide) (by decide)⟩
    · show Steps pP.tables eE below (T44_.setTop (mkF mM 304 #[.val (.int p1), .val (.int p2), .val (.int p3), .val (.int p4), .val (.int (1 : Int32)), .val (.ref b1_), .val (.ref b29_), .val (.int vq), .val (.ref b_37_), .val (.int (1 : Int32)), .val (.int (x0 &&& (255 : Int32)))] [(.int (1 : Int32))])) _
      exact retN X44_ hx (t := .boolean) Bd.returns (by simp) (Jvm.hb hby at_304) hr
    · show Q_rm0 Z p1 p2 p3 p4 h0 n0 _ T44_.heap _
      rw [p44__0]
      exact ⟨rfl, N44_⟩
  · show own_Fin pP eE below _ (T17_.setTop (mkF mM 83 #[.val (.int p1), .val (.int p2), .val (.int p3), .val (.int p4), .val (.int (2 : Int32)), .val (.ref b1_), .unset, .unset, .unset, .unset, .unset] []))
    refine own_fin (b := T17_.setTop (mkF mM 85 #[.val (.int p1), .val (.int p2), .val (.int p3), .val (.int p4), .val (.int (2 : Int32)), .val (.ref b1_), .unset, .unset, .unset, .unset, .unset] [(.int (2 : Int32))])) (fun tT kK => ?_) ?_
    · show Steps pP.tables eE below (T17_.setTop (mkF mM 83 #[.val (.int p1), .val (.int p2), .val (.int p3), .val (.int p4), .val (.int (2 : Int32)), .val (.ref b1_), .unset, .unset, .unset, .unset, .unset] [])) tT
      refine XS.iload X17_.here hx rfl (Jvm.hb hby at_83) rfl ?_
      show Steps pP.tables eE below (T17_.setTop (mkF mM 85 #[.val (.int p1), .val (.int p2), .val (.int p3), .val (.int p4), .val (.int (2 : Int32)), .val (.ref b1_), .unset, .unset, .unset, .unset, .unset] [(.int (2 : Int32))])) tT
      exact kK
    obtain ⟨T48_, h48_, k48_, X48_, e48_, E48_, A48_, st48_⟩ := newP X17_ hx hZ (hw _ (List.mem_of_getElem? (i := 0) rfl)) e17_ (g := (mkF mM 85 #[.val (.int p1), .val (.int p2), .val (.int p3), .val (.int p4), .val (.int (2 : Int32)), .val (.ref b1_), .unset, .unset, .unset, .unset, .unset] [(.int (2 : Int32))])) rfl (Jvm.hb hby at_85) rfl (by decide) (cap := 2) (by decide) (by decide) (by decide) (by decide)
    obtain ⟨b48_, g48_⟩ : ∃ z, z = h17_.size := ⟨_, rfl⟩
    rw [← g48_] at A48_ st48_
    have sz_b48_ : h0.size ≤ b48_ := Nat.le_trans K17_.1 (Nat.le_of_eq g48_.symm)
    have ge_b48_ : n0 ≤ b48_ := Nat.le_trans Z0 sz_b48_
    have ne49_ : b1_ ≠ b48_ := Nat.ne_of_lt (Nat.lt_of_lt_of_le V17_.lt (Nat.le_of_eq g48_.symm))
    have fc50_ := V17_.ext E48_
    have K48_ := K17_.ext E48_
    have V48_ : Arv Z h48_ b48_ k48_ .byte (2 : Int32) [(.int (0 : Int32)), (.int (0 : Int32))] (.int (0 : Int32)) := (Arv.new A48_ (by decide)).pad (pad_rep [] (.int (0 : Int32)) 2)
    refine own_fin st48_ ?_
    show own_Fin pP eE below _ (T48_.setTop (mkF mM 87 #[.val (.int p1), .val (.int p2), .val (.int p3), .val (.int p4), .val (.int (2 : Int32)), .val (.ref b1_), .unset, .unset, .unset, .unset, .unset] [(.ref b48_)]))
    refine own_fin (b := T48_.setTop (mkF mM 100 #[.val (.int p1), .val (.int p2), .val (.int p3), .val (.int p4), .val (.int (2 : Int32)), .val (.ref b1_), .val (.ref b48_), .unset, .unset, .unset, .unset] [(.int (0 : Int32)), (.ref b1_), (.int (0 : Int32)), (.ref b48_)])) (fun tT kK => ?_) ?_
    · show Steps pP.tables eE below (T48_.setTop (mkF mM 87 #[.val (.int p1), .val (.int p2), .val (.int p3), .val (.int p4), .val (.int (2 : Int32)), .val (.ref b1_), .unset, .unset, .unset, .unset, .unset] [(.ref b48_)])) tT
      refine XS.astore X48_.here hx rfl (Jvm.hb hby at_87) rfl rfl (l' := #[.val (.int p1), .val (.int p2), .val (.int p3), .val (.int p4), .val (.int (2 : Int32)), .val (.ref b1_), .val (.ref b48_), .unset, .unset, .unset, .unset]) rfl ?_
      show Steps pP.tables eE below (T48_.setTop (mkF mM 89 #[.val (.int p1), .val (.int p2), .val (.int p3), .val (.int p4), .val (.int (2 : Int32)), .val (.ref b1_), .val (.ref b48_), .unset, .unset, .unset, .unset] [])) tT
      refine XS.iload X48_.here hx rfl (Jvm.hb hby at_89) rfl ?_
      show Steps pP.tables eE below (T48_.setTop (mkF mM 91 #[.val (.int p1), .val (.int p2), .val (.int p3), .val (.int p4), .val (.int (2 : Int32)), .val (.ref b1_), .val (.ref b48_), .unset, .unset, .unset, .unset] [(.int (2 : Int32))])) tT
      refine XS.ifNo X48_.here hx rfl (Jvm.hb hby at_91) rfl ((if0 _ _).trans (tlt ((by decide) : (0 : Int32) < (2 : Int32))).2.2.2) ?_
      show Steps pP.tables eE below (T48_.setTop (mkF mM 94 #[.val (.int p1), .val (.int p2), .val (.int p3), .val (.int p4), .val (.int (2 : Int32)), .val (.ref b1_), .val (.ref b48_), .unset, .unset, .unset, .unset] [])) tT
      refine XS.aload X48_.here hx rfl (Jvm.hb hby at_94) rfl rfl ?_
      show Steps pP.tables eE below (T48_.setTop (mkF mM 96 #[.val (.int p1), .val (.int p2), .val (.int p3), .val (.int p4), .val (.int (2 : Int32)), .val (.ref b1_), .val (.ref b48_), .unset, .unset, .unset, .unset] [(.ref b48_)])) tT
      refine XS.iconst X48_.here hx rfl (Jvm.hb hby at_96) ?_
      show Steps pP.tables eE below (T48_.setTop (mkF mM 97 #[.val (.int p1), .val (.int p2), .val (.int p3), .val (.int p4), .val (.int (2 : Int32)), .val (.ref b1_), .val (.ref b48_), .unset, .unset, .unset, .unset] [(.int (0 : Int32)), (.ref b48_)])) tT
      refine XS.aload X48_.here hx rfl (Jvm.hb hby at_97) rfl rfl ?_
      show Steps pP.tables eE below (T48_.setTop (mkF mM 99 #[.val (.int p1), .val (.int p2), .val (.int p3), .val (.int p4), .val (.int (2 : Int32)), .val (.ref b1_), .val (.ref b48_), .unset, .unset, .unset, .unset] [(.ref b1_), (.int (0 : Int32)), (.ref b48_)])) tT
      refine XS.iconst X48_.here hx rfl (Jvm.hb hby at_99) ?_
      show Steps pP.tables eE below (T48_.setTop (mkF mM 100 #[.val (.int p1), .val (.int p2), .val (.int p3), .val (.int p4), .val (.int (2 : Int32)), .val (.ref b1_), .val (.ref b48_), .unset, .unset, .unset, .unset] [(.int (0 : Int32)), (.ref b1_), (.int (0 : Int32)), (.ref b48_)])) tT
      exact kK
    obtain ⟨cl51_, Ar51_, qk51_, Sz51_, Nn51_, Hh51_, Gg51_⟩ := id fc50_
    have hin52_ : ¬ ((0 : Int32) < 0 ∨ cl51_.slots.size ≤ ((0 : Int32)).toNatClampNeg) := inb_of Sz51_ ⟨by decide, by decide⟩
    have hat52_ : cl51_.slots[((0 : Int32)).toNatClampNeg]? = some (.int x0) := Hh51_.at hin52_ rfl
    refine own_fin (b := T48_.setTop (mkF mM 101 #[.val (.int p1), .val (.int p2), .val (.int p3), .val (.int p4), .val (.int (2 : Int32)), .val (.ref b1_), .val (.ref b48_), .unset, .unset, .unset, .unset] [(.int x0), (.int (0 : Int32)), (.ref b48_)])) (fun tT kK => ?_) ?_
    · show Steps pP.tables eE below (T48_.setTop (mkF mM 100 #[.val (.int p1), .val (.int p2), .val (.int p3), .val (.int p4), .val (.int (2 : Int32)), .val (.ref b1_), .val (.ref b48_), .unset, .unset, .unset, .unset] [(.int (0 : Int32)), (.ref b1_), (.int (0 : Int32)), (.ref b48_)])) tT
      refine X48_.baloadBytes hx (j := (0 : Int32)) (v := (.int x0)) (own_rw e48_ Ar51_.1) (State.isArrayOf_alike hZ.alike Ar51_.2.1) Ar51_.2.2 hin52_ hat52_ (g := (mkF mM 100 #[.val (.int p1), .val (.int p2), .val (.int p3), .val (.int p4), .val (.int (2 : Int32)), .val (.ref b1_), .val (.ref b48_), .unset, .unset, .unset, .unset] [(.int (0 : Int32)), (.ref b1_), (.int (0 : Int32)), (.ref b48_)])) rfl rfl (Jvm.hb hby at_100) _ ?_
      show Steps pP.tables eE below (T48_.setTop (mkF mM 101 #[.val (.int p1), .val (.int p2), .val (.int p3), .val (.int p4), .val (.int (2 : Int32)), .val (.ref b1_), .val (.ref b48_), .unset, .unset, .unset, .unset] [(.int x0), (.int (0 : Int32)), (.ref b48_)])) tT
      exact kK
    obtain ⟨cl53_, Ar53_, qk53_, Sz53_, Nn53_, Hh53_, Gg53_⟩ := id V48_
    have hin54_ : ¬ ((0 : Int32) < 0 ∨ cl53_.slots.size ≤ ((0 : Int32)).toNatClampNeg) := inb_of Sz53_ ⟨by decide, by decide⟩
    obtain ⟨T54_, h54_, X54_, e54_, W54_, st54_⟩ := stB X48_ hx hZ e48_ Ar53_ (j := (0 : Int32)) hin54_ (g := (mkF mM 101 #[.val (.int p1), .val (.int p2), .val (.int p3), .val (.int p4), .val (.int (2 : Int32)), .val (.ref b1_), .val (.ref b48_), .unset, .unset, .unset, .unset] [(.int x0), (.int (0 : Int32)), (.ref b48_)])) rfl rfl (Jvm.hb hby at_101)
    have V54_ : Arv Z h54_ b48_ k48_ .byte (2 : Int32) [(.int (nar .byte x0)), (.int (0 : Int32))] (.int (0 : Int32)) := Arv.set Ar53_ qk53_ Sz53_ Nn53_ Hh53_ Gg53_ (fits_nar_byte _) W54_ 0 rfl (Nat.le_of_ble_eq_true rfl)
    have fc55_ := fc50_.other W54_ ne49_
    have K54_ := K48_.wr W54_ (Or.inr sz_b48_)
    have N54_ := Fr.snoc X54_ N17_ ge_b48_
    refine own_fin st54_ ?_
    show own_Fin pP eE below _ (T54_.setTop (mkF mM 102 #[.val (.int p1), .val (.int p2), .val (.int p3), .val (.int p4), .val (.int (2 : Int32)), .val (.ref b1_), .val (.ref b48_), .unset, .unset, .unset, .unset] []))
    refine own_fin (b := T54_.setTop (mkF mM 114 #[.val (.int p1), .val (.int p2), .val (.int p3), .val (.int p4), .val (.int (2 : Int32)), .val (.ref b1_), .val (.ref b48_), .unset, .unset, .unset, .unset] [(.int (1 : Int32)), (.ref b1_), (.int (1 : Int32)), (.ref b48_)])) (fun tT kK => ?_) ?_
    · show Steps pP.tables eE below (T54_.setTop (mkF mM 102 #[.val (.int p1), .val (.int p2), .val (.int p3), .val (.int p4), .val (.int (2 : Int32)), .val (.ref b1_), .val (.ref b48_), .unset, .unset, .unset, .unset] [])) tT
      refine XS.iload X54_.here hx rfl (Jvm.hb hby at_102) rfl ?_
      show Steps pP.tables eE below (T54_.setTop (mkF mM 104 #[.val (.int p1), .val (.int p2), .val (.int p3), .val (.int p4), .val (.int (2 : Int32)), .val (.ref b1_), .val (.ref b48_), .unset, .unset, .unset, .unset] [(.int (2 : Int32))])) tT
      refine XS.iconst X54_.here hx rfl (Jvm.hb hby at_104) ?_
      show Steps pP.tables eE below (T54_.setTop (mkF mM 105 #[.val (.int p1), .val (.int p2), .val (.int p3), .val (.int p4), .val (.int (2 : Int32)), .val (.ref b1_), .val (.ref b48_), .unset, .unset, .unset, .unset] [(.int (1 : Int32)), (.int (2 : Int32))])) tT
      refine XS.icmpNo X54_.here hx rfl (Jvm.hb hby at_105) rfl (tlt ((by decide) : (1 : Int32) < (2 : Int32))).2.2.2 ?_
      show Steps pP.tables eE below (T54_.setTop (mkF mM 108 #[.val (.int p1), .val (.int p2), .val (.int p3), .val (.int p4), .val (.int (2 : Int32)), .val (.ref b1_), .val (.ref b48_), .unset, .unset, .unset, .unset] [])) tT
      refine XS.aload X54_.here hx rfl (Jvm.hb hby at_108) rfl rfl ?_
      show Steps pP.tables eE below (T54_.setTop (mkF mM 110 #[.val (.int p1), .val (.int p2), .val (.int p3), .val (.int p4), .val (.int (2 : Int32)), .val (.ref b1_), .val (.ref b48_), .unset, .unset, .unset, .unset] [(.ref b48_)])) tT
      refine XS.iconst X54_.here hx rfl (Jvm.hb hby at_110) ?_
      show Steps pP.tables eE below (T54_.setTop (mkF mM 111 #[.val (.int p1), .val (.int p2), .val (.int p3), .val (.int p4), .val (.int (2 : Int32)), .val (.ref b1_), .val (.ref b48_), .unset, .unset, .unset, .unset] [(.int (1 : Int32)), (.ref b48_)])) tT
      refine XS.aload X54_.here hx rfl (Jvm.hb hby at_111) rfl rfl ?_
      show Steps pP.tables eE below (T54_.setTop (mkF mM 113 #[.val (.int p1), .val (.int p2), .val (.int p3), .val (.int p4), .val (.int (2 : Int32)), .val (.ref b1_), .val (.ref b48_), .unset, .unset, .unset, .unset] [(.ref b1_), (.int (1 : Int32)), (.ref b48_)])) tT
      refine XS.iconst X54_.here hx rfl (Jvm.hb hby at_113) ?_
      show Steps pP.tables eE below (T54_.setTop (mkF mM 114 #[.val (.int p1), .val (.int p2), .val (.int p3), .val (.int p4), .val (.int (2 : Int32)), .val (.ref b1_), .val (.ref b48_), .unset, .unset, .unset, .unset] [(.int (1 : Int32)), (.ref b1_), (.int (1 : Int32)), (.ref b48_)])) tT
      exact kK
    obtain ⟨cl56_, Ar56_, qk56_, Sz56_, Nn56_, Hh56_, Gg56_⟩ := id fc55_
    have hin57_ : ¬ ((1 : Int32) < 0 ∨ cl56_.slots.size ≤ ((1 : Int32)).toNatClampNeg) := inb_of Sz56_ ⟨by decide, by decide⟩
    have hat57_ : cl56_.slots[((1 : Int32)).toNatClampNeg]? = some (.int x1) := Hh56_.at hin57_ rfl
    refine own_fin (b := T54_.setTop (mkF mM 115 #[.val (.int p1), .val (.int p2), .val (.int p3), .val (.int p4), .val (.int (2 : Int32)), .val (.ref b1_), .val (.ref b48_), .unset, .unset, .unset, .unset] [(.int x1), (.int (1 : Int32)), (.ref b48_)])) (fun tT kK => ?_) ?_
    · show Steps pP.tables eE below (T54_.setTop (mkF mM 114 #[.val (.int p1), .val (.int p2), .val (.int p3), .val (.int p4), .val (.int (2 : Int32)), .val (.ref b1_), .val (.ref b48_), .unset, .unset, .unset, .unset] [(.int (1 : Int32)), (.ref b1_), (.int (1 : Int32)), (.ref b48_)])) tT
      refine X54_.baloadBytes hx (j := (1 : Int32)) (v := (.int x1)) (own_rw e54_ Ar56_.1) (State.isArrayOf_alike hZ.alike Ar56_.2.1) Ar56_.2.2 hin57_ hat57_ (g := (mkF mM 114 #[.val (.int p1), .val (.int p2), .val (.int p3), .val (.int p4), .val (.int (2 : Int32)), .val (.ref b1_), .val (.ref b48_), .unset, .unset, .unset, .unset] [(.int (1 : Int32)), (.ref b1_), (.int (1 : Int32)), (.ref b48_)])) rfl rfl (Jvm.hb hby at_114) _ ?_
      show Steps pP.tables eE below (T54_.setTop (mkF mM 115 #[.val (.int p1), .val (.int p2), .val (.int p3), .val (.int p4), .val (.int (2 : Int32)), .val (.ref b1_), .val (.ref b48_), .unset, .unset, .unset, .unset] [(.int x1), (.int (1 : Int32)), (.ref b48_)])) tT
      exact kK
    obtain ⟨cl58_, Ar58_, qk58_, Sz58_, Nn58_, Hh58_, Gg58_⟩ := id V54_
    have hin59_ : ¬ ((1 : Int32) < 0 ∨ cl58_.slots.size ≤ ((1 : Int32)).toNatClampNeg) := inb_of Sz58_ ⟨by decide, by decide⟩
    obtain ⟨T59_, h59_, X59_, e59_, W59_, st59_⟩ := stB X54_ hx hZ e54_ Ar58_ (j := (1 : Int32)) hin59_ (g := (mkF mM 115 #[.val (.int p1), .val (.int p2), .val (.int p3), .val (.int p4), .val (.int (2 : Int32)), .val (.ref b1_), .val (.ref b48_), .unset, .unset, .unset, .unset] [(.int x1), (.int (1 : Int32)), (.ref b48_)])) rfl rfl (Jvm.hb hby at_115)
    have V59_ : Arv Z h59_ b48_ k48_ .byte (2 : Int32) [(.int (nar .byte x0)), (.int (nar .byte x1))] (.int (0 : Int32)) := Arv.set Ar58_ qk58_ Sz58_ Nn58_ Hh58_ Gg58_ (fits_nar_byte _) W59_ 1 rfl (Nat.le_of_ble_eq_true rfl)
    have fc60_ := fc55_.other W59_ ne49_
    have K59_ := K54_.wr W59_ (Or.inr sz_b48_)
    have N59_ := Fr.snoc X59_ N54_ ge_b48_
    refine own_fin st59_ ?_
    show own_Fin pP eE below _ (T59_.setTop (mkF mM 116 #[.val (.int p1), .val (.int p2), .val (.int p3), .val (.int p4), .val (.int (2 : Int32)), .val (.ref b1_), .val (.ref b48_), .unset, .unset, .unset, .unset] []))
    refine own_fin (b := T59_.setTop (mkF mM 213 #[.val (.int p1), .val (.int p2), .val (.int p3), .val (.int p4), .val (.int (2 : Int32)), .val (.ref b1_), .val (.ref b48_), .val (.int (p4 &&& (255 : Int32))), .unset, .unset, .unset] [])) (fun tT kK => ?_) ?_
    · show Steps pP.tables eE below (T59_.setTop (mkF mM 116 #[.val (.int p1), .val (.int p2), .val (.int p3), .val (.int p4), .val (.int (2 : Int32)), .val (.ref b1_), .val (.ref b48_), .unset, .unset, .unset, .unset] [])) tT
      refine XS.iload X59_.here hx rfl (Jvm.hb hby at_116) rfl ?_
      show Steps pP.tables eE below (T59_.setTop (mkF mM 118 #[.val (.int p1), .val (.int p2), .val (.int p3), .val (.int p4), .val (.int (2 : Int32)), .val (.ref b1_), .val (.ref b48_), .unset, .unset, .unset, .unset] [(.int (2 : Int32))])) tT
      refine XS.iconst X59_.here hx rfl (Jvm.hb hby at_118) ?_
      show Steps pP.tables eE below (T59_.setTop (mkF mM 119 #[.val (.int p1), .val (.int p2), .val (.int p3), .val (.int p4), .val (.int (2 : Int32)), .val (.ref b1_), .val (.ref b48_), .unset, .unset, .unset, .unset] [(.int (2 : Int32)), (.int (2 : Int32))])) tT
      refine XS.icmpYes X59_.here hx rfl (pc0 := 119) (pc' := 130) rfl (Jvm.hb hby at_119) rfl (flt ((by decide) : ¬ ((2 : Int32) < (2 : Int32)))).2.2.2 (by decide) (by decide) ?_
      show Steps pP.tables eE below (T59_.setTop (mkF mM 130 #[.val (.int p1), .val (.int p2), .val (.int p3), .val (.int p4), .val (.int (2 : Int32)), .val (.ref b1_), .val (.ref b48_), .unset, .unset, .unset, .unset] [])) tT
      refine XS.iload X59_.here hx rfl (Jvm.hb hby at_130) rfl ?_
      show Steps pP.tables eE below (T59_.setTop (mkF mM 132 #[.val (.int p1), .val (.int p2), .val (.int p3), .val (.int p4), .val (.int (2 : Int32)), .val (.ref b1_), .val (.ref b48_), .unset, .unset, .unset, .unset] [(.int (2 : Int32))])) tT
      refine XS.iconst X59_.here hx rfl (Jvm.hb hby at_132) ?_
      show Steps pP.tables eE below (T59_.setTop (mkF mM 133 #[.val (.int p1), .val (.int p2), .val (.int p3), .val (.int p4), .val (.int (2 : Int32)), .val (.ref b1_), .val (.ref b48_), .unset, .unset, .unset, .unset] [(.int (3 : Int32)), (.int (2 : Int32))])) tT
      refine XS.icmpYes X59_.here hx rfl (pc0 := 133) (pc' := 144) rfl (Jvm.hb hby at_133) rfl (flt ((by decide) : ¬ ((3 : Int32) < (2 : Int32)))).2.2.2 (by decide) (by decide) ?_
      show Steps pP.tables eE below (T59_.setTop (mkF mM 144 #[.val (.int p1), .val (.int p2), .val (.int p3), .val (.int p4), .val (.int (2 : Int32)), .val (.ref b1_), .val (.ref b48_), .unset, .unset, .unset, .unset] [])) tT
      refine XS.iload X59_.here hx rfl (Jvm.hb hby at_144) rfl ?_
      show Steps pP.tables eE below (T59_.setTop (mkF mM 146 #[.val (.int p1), .val (.int p2), .val (.int p3), .val (.int p4), .val (.int (2 : Int32)), .val (.ref b1_), .val (.ref b48_), .unset, .unset, .unset, .unset] [(.int (2 : Int32))])) tT
      refine XS.iconst X59_.here hx rfl (Jvm.hb hby at_146) ?_
      show Steps pP.tables eE below (T59_.setTop (mkF mM 147 #[.val (.int p1), .val (.int p2), .val (.int p3), .val (.int p4), .val (.int (2 : Int32)), .val (.ref b1_), .val (.ref b48_), .unset, .unset, .unset, .unset] [(.int (4 : Int32)), (.int (2 : Int32))])) tT
      refine XS.icmpYes X59_.here hx rfl (pc0 := 147) (pc' := 158) rfl (Jvm.hb hby at_147) rfl (flt ((by decide) : ¬ ((4 : Int32) < (2 : Int32)))).2.2.2 (by decide) (by decide) ?_
      show Steps pP.tables eE below (T59_.setTop (mkF mM 158 #[.val (.int p1), .val (.int p2), .val (.int p3), .val (.int p4), .val (.int (2 : Int32)), .val (.ref b1_), .val (.ref b48_), .unset, .unset, .unset, .unset] [])) tT
      refine XS.iload X59_.here hx rfl (Jvm.hb hby at_158) rfl ?_
      show Steps pP.tables eE below (T59_.setTop (mkF mM 160 #[.val (.int p1), .val (.int p2), .val (.int p3), .val (.int p4), .val (.int (2 : Int32)), .val (.ref b1_), .val (.ref b48_), .unset, .unset, .unset, .unset] [(.int (2 : Int32))])) tT
      refine XS.iconst X59_.here hx rfl (Jvm.hb hby at_160) ?_
      show Steps pP.tables eE below (T59_.setTop (mkF mM 161 #[.val (.int p1), .val (.int p2), .val (.int p3), .val (.int p4), .val (.int (2 : Int32)), .val (.ref b1_), .val (.ref b48_), .unset, .unset, .unset, .unset] [(.int (5 : Int32)), (.int (2 : Int32))])) tT
      refine XS.icmpYes X59_.here hx rfl (pc0 := 161) (pc' := 172) rfl (Jvm.hb hby at_161) rfl (flt ((by decide) : ¬ ((5 : Int32) < (2 : Int32)))).2.2.2 (by decide) (by decide) ?_
      show Steps pP.tables eE below (T59_.setTop (mkF mM 172 #[.val (.int p1), .val (.int p2), .val (.int p3), .val (.int p4), .val (.int (2 : Int32)), .val (.ref b1_), .val (.ref b48_), .unset, .unset, .unset, .unset] [])) tT
      refine XS.iload X59_.here hx rfl (Jvm.hb hby at_172) rfl ?_
      show Steps pP.tables eE below (T59_.setTop (mkF mM 174 #[.val (.int p1), .val (.int p2), .val (.int p3), .val (.int p4), .val (.int (2 : Int32)), .val (.ref b1_), .val (.ref b48_), .unset, .unset, .unset, .unset] [(.int (2 : Int32))])) tT
      refine XS.bipush X59_.here hx rfl (Jvm.hb hby at_174) ?_
      show Steps pP.tables eE below (T59_.setTop (mkF mM 176 #[.val (.int p1), .val (.int p2), .val (.int p3), .val (.int p4), .val (.int (2 : Int32)), .val (.ref b1_), .val (.ref b48_), .unset, .unset, .unset, .unset] [(.int (6 : Int32)), (.int (2 : Int32))])) tT
      refine XS.icmpYes X59_.here hx rfl (pc0 := 176) (pc' := 189) rfl (Jvm.hb hby at_176) rfl (flt ((by decide) : ¬ ((6 : Int32) < (2 : Int32)))).2.2.2 (by decide) (by decide) ?_
      show Steps pP.tables eE below (T59_.setTop (mkF mM 189 #[.val (.int p1), .val (.int p2), .val (.int p3), .val (.int p4), .val (.int (2 : Int32)), .val (.ref b1_), .val (.ref b48_), .unset, .unset, .unset, .unset] [])) tT
      refine XS.iload X59_.here hx rfl (Jvm.hb hby at_189) rfl ?_
      show Steps pP.tables eE below (T59_.setTop (mkF mM 191 #[.val (.int p1), .val (.int p2), .val (.int p3), .val (.int p4), .val (.int (2 : Int32)), .val (.ref b1_), .val (.ref b48_), .unset, .unset, .unset, .unset] [(.int (2 : Int32))])) tT
      refine XS.bipush X59_.here hx rfl (Jvm.hb hby at_191) ?_
      show Steps pP.tables eE below (T59_.setTop (mkF mM 193 #[.val (.int p1), .val (.int p2), .val (.int p3), .val (.int p4), .val (.int (2 : Int32)), .val (.ref b1_), .val (.ref b48_), .unset, .unset, .unset, .unset] [(.int (7 : Int32)), (.int (2 : Int32))])) tT
      refine XS.icmpYes X59_.here hx rfl (pc0 := 193) (pc' := 206) rfl (Jvm.hb hby at_193) rfl (flt ((by decide) : ¬ ((7 : Int32) < (2 : Int32)))).2.2.2 (by decide) (by decide) ?_
      show Steps pP.tables eE below (T59_.setTop (mkF mM 206 #[.val (.int p1), .val (.int p2), .val (.int p3), .val (.int p4), .val (.int (2 : Int32)), .val (.ref b1_), .val (.ref b48_), .unset, .unset, .unset, .unset] [])) tT
      refine XS.iloadN X59_.here hx rfl (Jvm.hb hby at_206) rfl ?_
      show Steps pP.tables eE below (T59_.setTop (mkF mM 207 #[.val (.int p1), .val (.int p2), .val (.int p3), .val (.int p4), .val (.int (2 : Int32)), .val (.ref b1_), .val (.ref b48_), .unset, .unset, .unset, .unset] [(.int p4)])) tT
      refine XS.sipush X59_.here hx rfl (Jvm.hb hby at_207) ?_
      show Steps pP.tables eE below (T59_.setTop (mkF mM 210 #[.val (.int p1), .val (.int p2), .val (.int p3), .val (.int p4), .val (.int (2 : Int32)), .val (.ref b1_), .val (.ref b48_), .unset, .unset, .unset, .unset] [(.int (255 : Int32)), (.int p4)])) tT
      refine XS.iand X59_.here hx rfl (Jvm.hb hby at_210) rfl ?_
      show Steps pP.tables eE below (T59_.setTop (mkF mM 211 #[.val (.int p1), .val (.int p2), .val (.int p3), .val (.int p4), .val (.int (2 : Int32)), .val (.ref b1_), .val (.ref b48_), .unset, .unset, .unset, .unset] [(.int (p4 &&& (255 : Int32)))])) tT
      refine XS.istore X59_.here hx rfl (Jvm.hb hby at_211) rfl (l' := #[.val (.int p1), .val (.int p2), .val (.int p3), .val (.int p4), .val (.int (2 : Int32)), .val (.ref b1_), .val (.ref b48_), .val (.int (p4 &&& (255 : Int32))), .unset, .unset, .unset]) rfl ?_
      show Steps pP.tables eE below (T59_.setTop (mkF mM 213 #[.val (.int p1), .val (.int p2), .val (.int p3), .val (.int p4), .val (.int (2 : Int32)), .val (.ref b1_), .val (.ref b48_), .val (.int (p4 &&& (255 : Int32))), .unset, .unset, .unset] [])) tT
      exact kK
    show own_Fin pP eE below _ (T59_.setTop (mkF mM 213 #[.val (.int p1), .val (.int p2), .val (.int p3), .val (.int p4), .val (.int (2 : Int32)), .val (.ref b1_), .val (.ref b48_), .val (.int (p4 &&& (255 : Int32))), .unset, .unset, .unset] []))
    generalize hvq : (p4 &&& (255 : Int32)) = vq
    show own_Fin pP eE below _ (T59_.setTop (mkF mM 213 #[.val (.int p1), .val (.int p2), .val (.int p3), .val (.int p4), .val (.int (2 : Int32)), .val (.ref b1_), .val (.ref b48_), .val (.int vq), .unset, .unset, .unset] []))
    have hq := own_m255 p4
    rw [hvq] at hq
    have Vp : Arv Z h59_ b48_ k48_ .byte (2 : Int32) (([x0, x1] : List Int32).map Value.int) (.int (0 : Int32)) := by have q := V59_; rw [hy0, hy1] at q; exact q
    refine own_fin (b := T59_.setTop (mkF mM 215 #[.val (.int p1), .val (.int p2), .val (.int p3), .val (.int p4), .val (.int (2 : Int32)), .val (.ref b1_), .val (.ref b48_), .val (.int vq), .unset, .unset, .unset] [(.ref b48_)])) (fun tT kK => ?_) ?_
    · show Steps pP.tables eE below (T59_.setTop (mkF mM 213 #[.val (.int p1), .val (.int p2), .val (.int p3), .val (.int p4), .val (.int (2 : Int32)), .val (.ref b1_), .val (.ref b48_), .val (.int vq), .unset, .unset, .unset] [])) tT
      refine XS.aload X59_.here hx rfl (Jvm.hb hby at_213) rfl rfl ?_
      show Steps pP.tables eE below (T59_.setTop (mkF mM 215 #[.val (.int p1), .val (.int p2), .val (.int p3), .val (.int p4), .val (.int (2 : Int32)), .val (.ref b1_), .val (.ref b48_), .val (.int vq), .unset, .unset, .unset] [(.ref b48_)])) tT
      exact kK
    obtain ⟨_, _, ⟨T61_, L61_, k61_, n61_⟩, -, X61_, ⟨Lc61_, hQ61_, l61_, y61_, z61_⟩, st61_⟩ := Jvm.LawKit.callS X59_ hx (y := (⟨"com/example/needlework/needlework/BoyerMoore", "rightmost", "([B)[I"⟩ : MethodName)) hown (mvT hZ (hw _ (List.mem_of_getElem? (i := 1) rfl))) (mvT hZ (hw _ (List.mem_of_getElem? (i := 2) rfl))) (mvT hZ (hw _ (List.mem_of_getElem? (i := 3) rfl))) (mvT hZ (hw _ (List.mem_of_getElem? (i := 4) rfl))) (by decide) (backOf (W := 0) (rm_right lL Z a0 hw [] b48_ k48_ (2 : Int32) ([x0, x1] : List Int32) h59_ n0 (Nat.le_trans Z0 K59_.1) Vp) hZ (hw _ (List.mem_of_getElem? (i := 4) rfl)) (hw _ (List.mem_of_getElem? (i := 3) rfl)) (by decide) (by decide)) (g := (mkF mM 215 #[.val (.int p1), .val (.int p2), .val (.int p3), .val (.int p4), .val (.int (2 : Int32)), .val (.ref b1_), .val (.ref b48_), .val (.int vq), .unset, .unset, .unset] [(.ref b48_)])) rfl (by rw [hml]; rfl) (argsL := [(.ref b48_)]) (rest := []) (lenOf own_pd1 rfl) rfl (by show 2 * 0 + _ ≤ _; exact Nat.le_of_eq rfl) (Jvm.hb hby at_215) (fun _ _ => ⟨rfl, e59_, (by decide : 2 + 1 ≤ _), (by decide : 10 + 256 ≤ _)⟩)
    dsimp only [Pt.U, Pt.locs, Pt.cells, Pt.slots] at X61_ l61_ y61_ z61_ st61_ hQ61_
    subst l61_ y61_ z61_
    obtain ⟨b_61_, rfl, N61_q, p61__0, p61__1, p61__2⟩ := hQ61_
    have N61_ := Fr.app N59_ N61_q
    have sz_b_61_ : h0.size ≤ b_61_ := Nat.le_trans K59_.1 p61__1
    have ge_b_61_ : n0 ≤ b_61_ := Nat.le_trans Z0 sz_b_61_
    have ne62_ : b1_ ≠ b_61_ := Nat.ne_of_lt (Nat.lt_of_lt_of_le fc60_.lt p61__1)
    have ne63_ : b48_ ≠ b_61_ := Nat.ne_of_lt (Nat.lt_of_lt_of_le V59_.lt p61__1)
    have fc64_ := fc60_.keep p61__0 nin0
    have fc65_ := V59_.keep p61__0 nin0
    have K61_ := K59_.trans p61__0 all0
    refine own_fin (fun tT kK => st61_ tT kK) ?_
    show own_Fin pP eE below _ (T61_.setTop (mkF mM 218 #[.val (.int p1), .val (.int p2), .val (.int p3), .val (.int p4), .val (.int (2 : Int32)), .val (.ref b1_), .val (.ref b48_), .val (.int vq), .unset, .unset, .unset] [(.ref b_61_)]))
    refine own_fin (b := T61_.setTop (mkF mM 227 #[.val (.int p1), .val (.int p2), .val (.int p3), .val (.int p4), .val (.int (2 : Int32)), .val (.ref b1_), .val (.ref b48_), .val (.int vq), .val (.ref b_61_), .unset, .unset] [(.ref b_61_)])) (fun tT kK => ?_) ?_
    · show Steps pP.tables eE below (T61_.setTop (mkF mM 218 #[.val (.int p1), .val (.int p2), .val (.int p3), .val (.int p4), .val (.int (2 : Int32)), .val (.ref b1_), .val (.ref b48_), .val (.int vq), .unset, .unset, .unset] [(.ref b_61_)])) tT
      refine XS.astore X61_.here hx rfl (Jvm.hb hby at_218) rfl rfl (l' := #[.val (.int p1), .val (.int p2), .val (.int p3), .val (.int p4), .val (.int (2 : Int32)), .val (.ref b1_), .val (.ref b48_), .val (.int vq), .val (.ref b_61_), .unset, .unset]) rfl ?_
      show Steps pP.tables eE below (T61_.setTop (mkF mM 220 #[.val (.int p1), .val (.int p2), .val (.int p3), .val (.int p4), .val (.int (2 : Int32)), .val (.ref b1_), .val (.ref b48_), .val (.int vq), .val (.ref b_61_), .unset, .unset] [])) tT
      refine XS.aload X61_.here hx rfl (Jvm.hb hby at_220) rfl rfl ?_
      show Steps pP.tables eE below (T61_.setTop (mkF mM 222 #[.val (.int p1), .val (.int p2), .val (.int p3), .val (.int p4), .val (.int (2 : Int32)), .val (.ref b1_), .val (.ref b48_), .val (.int vq), .val (.ref b_61_), .unset, .unset] [(.ref b_61_)])) tT
      refine XS.ifnullNo X61_.here hx rfl (Jvm.hb hby at_222) rfl ?_
      show Steps pP.tables eE below (T61_.setTop (mkF mM 225 #[.val (.int p1), .val (.int p2), .val (.int p3), .val (.int p4), .val (.int (2 : Int32)), .val (.ref b1_), .val (.ref b48_), .val (.int vq), .val (.ref b_61_), .unset, .unset] [])) tT
      refine XS.aload X61_.here hx rfl (Jvm.hb hby at_225) rfl rfl ?_
      show Steps pP.tables eE below (T61_.setTop (mkF mM 227 #[.val (.int p1), .val (.int p2), .val (.int p3), .val (.int p4), .val (.int (2 : Int32)), .val (.ref b1_), .val (.ref b48_), .val (.int vq), .val (.ref b_61_), .unset, .unset] [(.ref b_61_)])) tT
      exact kK
    obtain ⟨cl66_, Ar66_, Sz66_, Nn66_, -⟩ := id p61__2
    refine own_fin (b := T61_.setTop (mkF mM 240 #[.val (.int p1), .val (.int p2), .val (.int p3), .val (.int p4), .val (.int (2 : Int32)), .val (.ref b1_), .val (.ref b48_), .val (.int vq), .val (.ref b_61_), .unset, .unset] [(.int vq), (.ref b_61_)])) (fun tT kK => ?_) ?_
    · show Steps pP.tables eE below (T61_.setTop (mkF mM 227 #[.val (.int p1), .val (.int p2), .val (.int p3), .val (.int p4), .val (.int (2 : Int32)), .val (.ref b1_), .val (.ref b48_), .val (.int vq), .val (.ref b_61_), .unset, .unset] [(.ref b_61_)])) tT
      refine X61_.arraylength hx (own_rw rfl Ar66_.1) (State.isArrayOf_alike hZ.alike Ar66_.2.1) (g := (mkF mM 227 #[.val (.int p1), .val (.int p2), .val (.int p3), .val (.int p4), .val (.int (2 : Int32)), .val (.ref b1_), .val (.ref b48_), .val (.int vq), .val (.ref b_61_), .unset, .unset] [(.ref b_61_)])) rfl rfl (Jvm.hb hby at_227) _ ?_
      rw [len_of Sz66_ Nn66_]
      show Steps pP.tables eE below (T61_.setTop (mkF mM 228 #[.val (.int p1), .val (.int p2), .val (.int p3), .val (.int p4), .val (.int (2 : Int32)), .val (.ref b1_), .val (.ref b48_), .val (.int vq), .val (.ref b_61_), .unset, .unset] [(.int (256 : Int32))])) tT
      refine XS.sipush X61_.here hx rfl (Jvm.hb hby at_228) ?_
      show Steps pP.tables eE below (T61_.setTop (mkF mM 231 #[.val (.int p1), .val (.int p2), .val (.int p3), .val (.int p4), .val (.int (2 : Int32)), .val (.ref b1_), .val (.ref b48_), .val (.int vq), .val (.ref b_61_), .unset, .unset] [(.int (256 : Int32)), (.int (256 : Int32))])) tT
      refine XS.icmpYes X61_.here hx rfl (pc0 := 231) (pc' := 236) rfl (Jvm.hb hby at_231) rfl (teq ((by decide) : (256 : Int32) = (256 : Int32))).1 (by decide) (by decide) ?_
      show Steps pP.tables eE below (T61_.setTop (mkF mM 236 #[.val (.int p1), .val (.int p2), .val (.int p3), .val (.int p4), .val (.int (2 : Int32)), .val (.ref b1_), .val (.ref b48_), .val (.int vq), .val (.ref b_61_), .unset, .unset] [])) tT
      refine XS.aload X61_.here hx rfl (Jvm.hb hby at_236) rfl rfl ?_
      show Steps pP.tables eE below (T61_.setTop (mkF mM 238 #[.val (.int p1), .val (.int p2), .val (.int p3), .val (.int p4), .val (.int (2 : Int32)), .val (.ref b1_), .val (.ref b48_), .val (.int vq), .val (.ref b_61_), .unset, .unset] [(.ref b_61_)])) tT
      refine XS.iload X61_.here hx rfl (Jvm.hb hby at_238) rfl ?_
      show Steps pP.tables eE below (T61_.setTop (mkF mM 240 #[.val (.int p1), .val (.int p2), .val (.int p3), .val (.int p4), .val (.int (2 : Int32)), .val (.ref b1_), .val (.ref b48_), .val (.int vq), .val (.ref b_61_), .unset, .unset] [(.int vq), (.ref b_61_)])) tT
      exact kK
    obtain ⟨cl67_, Ar67_, Sz67_, Nn67_, Hh67_⟩ := id p61__2
    have hin67_ : ¬ (vq < 0 ∨ cl67_.slots.size ≤ (vq).toNatClampNeg) := inb_of Sz67_ hq
    have hat67_ : cl67_.slots[(vq).toNatClampNeg]? = some (.int ((own_ft ([x0, x1] : List Int32) (2 : Int32).toNatClampNeg) vq)) := Hh67_ _ hin67_
    refine own_fin (b := T61_.setTop (mkF mM 247 #[.val (.int p1), .val (.int p2), .val (.int p3), .val (.int p4), .val (.int (2 : Int32)), .val (.ref b1_), .val (.ref b48_), .val (.int vq), .val (.ref b_61_), .unset, .unset] [(.int vq), (.int (2 : Int32)), (.ref b1_), (.int ((own_ft ([x0, x1] : List Int32) (2 : Int32).toNatClampNeg) vq))])) (fun tT kK => ?_) ?_
    · show Steps pP.tables eE below (T61_.setTop (mkF mM 240 #[.val (.int p1), .val (.int p2), .val (.int p3), .val (.int p4), .val (.int (2 : Int32)), .val (.ref b1_), .val (.ref b48_), .val (.int vq), .val (.ref b_61_), .unset, .unset] [(.int vq), (.ref b_61_)])) tT
      refine X61_.iaload hx (j := vq) (v := (.int ((own_ft ([x0, x1] : List Int32) (2 : Int32).toNatClampNeg) vq))) (own_rw rfl Ar67_.1) (State.isArrayOf_alike hZ.alike Ar67_.2.1) Ar67_.2.2 hin67_ hat67_ (g := (mkF mM 240 #[.val (.int p1), .val (.int p2), .val (.int p3), .val (.int p4), .val (.int (2 : Int32)), .val (.ref b1_), .val (.ref b48_), .val (.int vq), .val (.ref b_61_), .unset, .unset] [(.int vq), (.ref b_61_)])) rfl rfl (Jvm.hb hby at_240) _ ?_
      show Steps pP.tables eE below (T61_.setTop (mkF mM 241 #[.val (.int p1), .val (.int p2), .val (.int p3), .val (.int p4), .val (.int (2 : Int32)), .val (.ref b1_), .val (.ref b48_), .val (.int vq), .val (.ref b_61_), .unset, .unset] [(.int ((own_ft ([x0, x1] : List Int32) (2 : Int32).toNatClampNeg) vq))])) tT
      refine XS.aload X61_.here hx rfl (Jvm.hb hby at_241) rfl rfl ?_
      show Steps pP.tables eE below (T61_.setTop (mkF mM 243 #[.val (.int p1), .val (.int p2), .val (.int p3), .val (.int p4), .val (.int (2 : Int32)), .val (.ref b1_), .val (.ref b48_), .val (.int vq), .val (.ref b_61_), .unset, .unset] [(.ref b1_), (.int ((own_ft ([x0, x1] : List Int32) (2 : Int32).toNatClampNeg) vq))])) tT
      refine XS.iload X61_.here hx rfl (Jvm.hb hby at_243) rfl ?_
      show Steps pP.tables eE below (T61_.setTop (mkF mM 245 #[.val (.int p1), .val (.int p2), .val (.int p3), .val (.int p4), .val (.int (2 : Int32)), .val (.ref b1_), .val (.ref b48_), .val (.int vq), .val (.ref b_61_), .unset, .unset] [(.int (2 : Int32)), (.ref b1_), (.int ((own_ft ([x0, x1] : List Int32) (2 : Int32).toNatClampNeg) vq))])) tT
      refine XS.iload X61_.here hx rfl (Jvm.hb hby at_245) rfl ?_
      show Steps pP.tables eE below (T61_.setTop (mkF mM 247 #[.val (.int p1), .val (.int p2), .val (.int p3), .val (.int p4), .val (.int (2 : Int32)), .val (.ref b1_), .val (.ref b48_), .val (.int vq), .val (.ref b_61_), .unset, .unset] [(.int vq), (.int (2 : Int32)), (.ref b1_), (.int ((own_ft ([x0, x1] : List Int32) (2 : Int32).toNatClampNeg) vq))])) tT
      exact kK
    obtain ⟨_, _, ⟨T68_, L68_, k68_, n68_⟩, -, X68_, ⟨Lc68_, hQ68_, l68_, y68_, z68_⟩, st68_⟩ := Jvm.LawKit.callS X61_ hx (y := (⟨"com/example/needlework/needlework/BoyerMooreRightmostPinLaw", "ref", "([BII)I"⟩ : MethodName)) hown (mvT hZ (hw _ (List.mem_of_getElem? (i := 10) rfl))) (mvT hZ (hw _ (List.mem_of_getElem? (i := 11) rfl))) (mvT hZ (hw _ (List.mem_of_getElem? (i := 12) rfl))) (mvT hZ (hw _ (List.mem_of_getElem? (i := 13) rfl))) (by decide) (backOf (W := 1) (rm_ref lL Z a0 hw [] b1_ k1_ (2 : Int32) vq x0 x1 x2 x3 x4 x5 x6 x7 T61_.heap n0 (Nat.le_trans Z0 K61_.1) fc64_) hZ (hw _ (List.mem_of_getElem? (i := 13) rfl)) (hw _ (List.mem_of_getElem? (i := 12) rfl)) (by decide) (by decide)) (g := (mkF mM 247 #[.val (.int p1), .val (.int p2), .val (.int p3), .val (.int p4), .val (.int (2 : Int32)), .val (.ref b1_), .val (.ref b48_), .val (.int vq), .val (.ref b_61_), .unset, .unset] [(.int vq), (.int (2 : Int32)), (.ref b1_), (.int ((own_ft ([x0, x1] : List Int32) (2 : Int32).toNatClampNeg) vq))])) rfl (by rw [hml]; rfl) (argsL := [(.ref b1_), (.int (2 : Int32)), (.int vq)]) (rest := [(.int ((own_ft ([x0, x1] : List Int32) (2 : Int32).toNatClampNeg) vq))]) (lenOf own_pd2 rfl) rfl (by show 2 * 0 + _ ≤ _; exact Nat.le_of_eq rfl) (Jvm.hb hby at_247) (fun _ _ => ⟨rfl, rfl, (by decide : 3 + 0 ≤ _), (by decide : 266 + 0 ≤ _)⟩)
    dsimp only [Pt.U, Pt.locs, Pt.cells, Pt.slots] at X68_ l68_ y68_ z68_ st68_ hQ68_
    subst l68_ y68_ z68_
    obtain ⟨rfl, N68_q, p68__0⟩ := hQ68_
    have N68_ := Fr.app N61_ N68_q
    refine own_fin (fun tT kK => st68_ tT kK) ?_
    show own_Fin pP eE below _ (T68_.setTop (mkF mM 250 #[.val (.int p1), .val (.int p2), .val (.int p3), .val (.int p4), .val (.int (2 : Int32)), .val (.ref b1_), .val (.ref b48_), .val (.int vq), .val (.ref b_61_), .unset, .unset] [(.int (own_ref (2 : Int32) vq x0 x1 x2 x3 x4 x5 x6 x7)), (.int ((own_ft ([x0, x1] : List Int32) (2 : Int32).toNatClampNeg) vq))]))
    refine own_fin (b := T68_.setTop (mkF mM 271 #[.val (.int p1), .val (.int p2), .val (.int p3), .val (.int p4), .val (.int (2 : Int32)), .val (.ref b1_), .val (.ref b48_), .val (.int vq), .val (.ref b_61_), .val (.int (1 : Int32)), .unset] [(.int (1 : Int32)), (.ref b1_)])) (fun tT kK => ?_) ?_
    · show Steps pP.tables eE below (T68_.setTop (mkF mM 250 #[.val (.int p1), .val (.int p2), .val (.int p3), .val (.int p4), .val (.int (2 : Int32)), .val (.ref b1_), .val (.ref b48_), .val (.int vq), .val (.ref b_61_), .unset, .unset] [(.int (own_ref (2 : Int32) vq x0 x1 x2 x3 x4 x5 x6 x7)), (.int ((own_ft ([x0, x1] : List Int32) (2 : Int32).toNatClampNeg) vq))])) tT
      refine XS.icmpNo X68_.here hx rfl (Jvm.hb hby at_250) rfl (teq (own_e2 vq x0 x1 x2 x3 x4 x5 x6 x7 : ((own_ft ([x0, x1] : List Int32) (2 : Int32).toNatClampNeg) vq) = (own_ref (2 : Int32) vq x0 x1 x2 x3 x4 x5 x6 x7))).2 ?_
      show Steps pP.tables eE below (T68_.setTop (mkF mM 253 #[.val (.int p1), .val (.int p2), .val (.int p3), .val (.int p4), .val (.int (2 : Int32)), .val (.ref b1_), .val (.ref b48_), .val (.int vq), .val (.ref b_61_), .unset, .unset] [])) tT
      refine XS.iconst X68_.here hx rfl (Jvm.hb hby at_253) ?_
      show Steps pP.tables eE below (T68_.setTop (mkF mM 254 #[.val (.int p1), .val (.int p2), .val (.int p3), .val (.int p4), .val (.int (2 : Int32)), .val (.ref b1_), .val (.ref b48_), .val (.int vq), .val (.ref b_61_), .unset, .unset] [(.int (1 : Int32))])) tT
      refine XS.goto X68_.here hx rfl (pc0 := 254) (pc' := 258) rfl (Jvm.hb hby at_254) (by decide) (by decide) ?_
      show Steps pP.tables eE below (T68_.setTop (mkF mM 258 #[.val (.int p1), .val (.int p2), .val (.int p3), .val (.int p4), .val (.int (2 : Int32)), .val (.ref b1_), .val (.ref b48_), .val (.int vq), .val (.ref b_61_), .unset, .unset] [(.int (1 : Int32))])) tT
      refine XS.istore X68_.here hx rfl (Jvm.hb hby at_258) rfl (l' := #[.val (.int p1), .val (.int p2), .val (.int p3), .val (.int p4), .val (.int (2 : Int32)), .val (.ref b1_), .val (.ref b48_), .val (.int vq), .val (.ref b_61_), .val (.int (1 : Int32)), .unset]) rfl ?_
      show Steps pP.tables eE below (T68_.setTop (mkF mM 260 #[.val (.int p1), .val (.int p2), .val (.int p3), .val (.int p4), .val (.int (2 : Int32)), .val (.ref b1_), .val (.ref b48_), .val (.int vq), .val (.ref b_61_), .val (.int (1 : Int32)), .unset] [])) tT
      refine XS.iload X68_.here hx rfl (Jvm.hb hby at_260) rfl ?_
      show Steps pP.tables eE below (T68_.setTop (mkF mM 262 #[.val (.int p1), .val (.int p2), .val (.int p3), .val (.int p4), .val (.int (2 : Int32)), .val (.ref b1_), .val (.ref b48_), .val (.int vq), .val (.ref b_61_), .val (.int (1 : Int32)), .unset] [(.int (2 : Int32))])) tT
      refine XS.ifNo X68_.here hx rfl (Jvm.hb hby at_262) rfl ((if0 _ _).trans (tlt ((by decide) : (0 : Int32) < (2 : Int32))).2.2.2) ?_
      show Steps pP.tables eE below (T68_.setTop (mkF mM 265 #[.val (.int p1), .val (.int p2), .val (.int p3), .val (.int p4), .val (.int (2 : Int32)), .val (.ref b1_), .val (.ref b48_), .val (.int vq), .val (.ref b_61_), .val (.int (1 : Int32)), .unset] [])) tT
      refine XS.aload X68_.here hx rfl (Jvm.hb hby at_265) rfl rfl ?_
      show Steps pP.tables eE below (T68_.setTop (mkF mM 267 #[.val (.int p1), .val (.int p2), .val (.int p3), .val (.int p4), .val (.int (2 : Int32)), .val (.ref b1_), .val (.ref b48_), .val (.int vq), .val (.ref b_61_), .val (.int (1 : Int32)), .unset] [(.ref b1_)])) tT
      refine XS.iload X68_.here hx rfl (Jvm.hb hby at_267) rfl ?_
      show Steps pP.tables eE below (T68_.setTop (mkF mM 269 #[.val (.int p1), .val (.int p2), .val (.int p3), .val (.int p4), .val (.int (2 : Int32)), .val (.ref b1_), .val (.ref b48_), .val (.int vq), .val (.ref b_61_), .val (.int (1 : Int32)), .unset] [(.int (2 : Int32)), (.ref b1_)])) tT
      refine XS.iconst X68_.here hx rfl (Jvm.hb hby at_269) ?_
      show Steps pP.tables eE below (T68_.setTop (mkF mM 270 #[.val (.int p1), .val (.int p2), .val (.int p3), .val (.int p4), .val (.int (2 : Int32)), .val (.ref b1_), .val (.ref b48_), .val (.int vq), .val (.ref b_61_), .val (.int (1 : Int32)), .unset] [(.int (1 : Int32)), (.int (2 : Int32)), (.ref b1_)])) tT
      refine XS.isub X68_.here hx rfl (Jvm.hb hby at_270) rfl ?_
      show Steps pP.tables eE below (T68_.setTop (mkF mM 271 #[.val (.int p1), .val (.int p2), .val (.int p3), .val (.int p4), .val (.int (2 : Int32)), .val (.ref b1_), .val (.ref b48_), .val (.int vq), .val (.ref b_61_), .val (.int (1 : Int32)), .unset] [(.int (1 : Int32)), (.ref b1_)])) tT
      exact kK
    obtain ⟨cl69_, Ar69_, qk69_, Sz69_, Nn69_, Hh69_, Gg69_⟩ := id fc64_
    have hin70_ : ¬ ((1 : Int32) < 0 ∨ cl69_.slots.size ≤ ((1 : Int32)).toNatClampNeg) := inb_of Sz69_ ⟨by decide, by decide⟩
    have hat70_ : cl69_.slots[((1 : Int32)).toNatClampNeg]? = some (.int x1) := Hh69_.at hin70_ rfl
    refine own_fin (b := T68_.setTop (mkF mM 287 #[.val (.int p1), .val (.int p2), .val (.int p3), .val (.int p4), .val (.int (2 : Int32)), .val (.ref b1_), .val (.ref b48_), .val (.int vq), .val (.ref b_61_), .val (.int (1 : Int32)), .val (.int (x1 &&& (255 : Int32)))] [(.int (x1 &&& (255 : Int32))), (.ref b_61_)])) (fun tT kK => ?_) ?_
    · show Steps pP.tables eE below (T68_.setTop (mkF mM 271 #[.val (.int p1), .val (.int p2), .val (.int p3), .val (.int p4), .val (.int (2 : Int32)), .val (.ref b1_), .val (.ref b48_), .val (.int vq), .val (.ref b_61_), .val (.int (1 : Int32)), .unset] [(.int (1 : Int32)), (.ref b1_)])) tT
      refine X68_.baloadBytes hx (j := (1 : Int32)) (v := (.int x1)) (own_rw p68__0 Ar69_.1) (State.isArrayOf_alike hZ.alike Ar69_.2.1) Ar69_.2.2 hin70_ hat70_ (g := (mkF mM 271 #[.val (.int p1), .val (.int p2), .val (.int p3), .val (.int p4), .val (.int (2 : Int32)), .val (.ref b1_), .val (.ref b48_), .val (.int vq), .val (.ref b_61_), .val (.int (1 : Int32)), .unset] [(.int (1 : Int32)), (.ref b1_)])) rfl rfl (Jvm.hb hby at_271) _ ?_
      show Steps pP.tables eE below (T68_.setTop (mkF mM 272 #[.val (.int p1), .val (.int p2), .val (.int p3), .val (.int p4), .val (.int (2 : Int32)), .val (.ref b1_), .val (.ref b48_), .val (.int vq), .val (.ref b_61_), .val (.int (1 : Int32)), .unset] [(.int x1)])) tT
      refine XS.sipush X68_.here hx rfl (Jvm.hb hby at_272) ?_
      show Steps pP.tables eE below (T68_.setTop (mkF mM 275 #[.val (.int p1), .val (.int p2), .val (.int p3), .val (.int p4), .val (.int (2 : Int32)), .val (.ref b1_), .val (.ref b48_), .val (.int vq), .val (.ref b_61_), .val (.int (1 : Int32)), .unset] [(.int (255 : Int32)), (.int x1)])) tT
      refine XS.iand X68_.here hx rfl (Jvm.hb hby at_275) rfl ?_
      show Steps pP.tables eE below (T68_.setTop (mkF mM 276 #[.val (.int p1), .val (.int p2), .val (.int p3), .val (.int p4), .val (.int (2 : Int32)), .val (.ref b1_), .val (.ref b48_), .val (.int vq), .val (.ref b_61_), .val (.int (1 : Int32)), .unset] [(.int (x1 &&& (255 : Int32)))])) tT
      refine XS.istore X68_.here hx rfl (Jvm.hb hby at_276) rfl (l' := #[.val (.int p1), .val (.int p2), .val (.int p3), .val (.int p4), .val (.int (2 : Int32)), .val (.ref b1_), .val (.ref b48_), .val (.int vq), .val (.ref b_61_), .val (.int (1 : Int32)), .val (.int (x1 &&& (255 : Int32)))]) rfl ?_
      show Steps pP.tables eE below (T68_.setTop (mkF mM 278 #[.val (.int p1), .val (.int p2), .val (.int p3), .val (.int p4), .val (.int (2 : Int32)), .val (.ref b1_), .val (.ref b48_), .val (.int vq), .val (.ref b_61_), .val (.int (1 : Int32)), .val (.int (x1 &&& (255 : Int32)))] [])) tT
      refine XS.iload X68_.here hx rfl (Jvm.hb hby at_278) rfl ?_
      show Steps pP.tables eE below (T68_.setTop (mkF mM 280 #[.val (.int p1), .val (.int p2), .val (.int p3), .val (.int p4), .val (.int (2 : Int32)), .val (.ref b1_), .val (.ref b48_), .val (.int vq), .val (.ref b_61_), .val (.int (1 : Int32)), .val (.int (x1 &&& (255 : Int32)))] [(.int (1 : Int32))])) tT
      refine XS.ifNo X68_.here hx rfl (Jvm.hb hby at_280) rfl ((if0 _ _).trans (feq ((by decide) : ¬ ((1 : Int32) = (0 : Int32)))).1) ?_
      show Steps pP.tables eE below (T68_.setTop (mkF mM 283 #[.val (.int p1), .val (.int p2), .val (.int p3), .val (.int p4), .val (.int (2 : Int32)), .val (.ref b1_), .val (.ref b48_), .val (.int vq), .val (.ref b_61_), .val (.int (1 : Int32)), .val (.int (x1 &&& (255 : Int32)))] [])) tT
      refine XS.aload X68_.here hx rfl (Jvm.hb hby at_283) rfl rfl ?_
      show Steps pP.tables eE below (T68_.setTop (mkF mM 285 #[.val (.int p1), .val (.int p2), .val (.int p3), .val (.int p4), .val (.int (2 : Int32)), .val (.ref b1_), .val (.ref b48_), .val (.int vq), .val (.ref b_61_), .val (.int (1 : Int32)), .val (.int (x1 &&& (255 : Int32)))] [(.ref b_61_)])) tT
      refine XS.iload X68_.here hx rfl (Jvm.hb hby at_285) rfl ?_
      show Steps pP.tables eE below (T68_.setTop (mkF mM 287 #[.val (.int p1), .val (.int p2), .val (.int p3), .val (.int p4), .val (.int (2 : Int32)), .val (.ref b1_), .val (.ref b48_), .val (.int vq), .val (.ref b_61_), .val (.int (1 : Int32)), .val (.int (x1 &&& (255 : Int32)))] [(.int (x1 &&& (255 : Int32))), (.ref b_61_)])) tT
      exact kK
    obtain ⟨cl71_, Ar71_, Sz71_, Nn71_, Hh71_⟩ := id p61__2
    have hin71_ : ¬ ((x1 &&& (255 : Int32)) < 0 ∨ cl71_.slots.size ≤ ((x1 &&& (255 : Int32))).toNatClampNeg) := inb_of Sz71_ (own_m255 x1)
    have hat71_ : cl71_.slots[((x1 &&& (255 : Int32))).toNatClampNeg]? = some (.int ((own_ft ([x0, x1] : List Int32) (2 : Int32).toNatClampNeg) (x1 &&& (255 : Int32)))) := Hh71_ _ hin71_
    refine own_fin (b := T68_.setTop (mkF mM 304 #[.val (.int p1), .val (.int p2), .val (.int p3), .val (.int p4), .val (.int (2 : Int32)), .val (.ref b1_), .val (.ref b48_), .val (.int vq), .val (.ref b_61_), .val (.int (1 : Int32)), .val (.int (x1 &&& (255 : Int32)))] [(.int (1 : Int32))])) (fun tT kK => ?_) ?_
    · show Steps pP.tables eE below (T68_.setTop (mkF mM 287 #[.val (.int p1), .val (.int p2), .val (.int p3), .val (.int p4), .val (.int (2 : Int32)), .val (.ref b1_), .val (.ref b48_), .val (.int vq), .val (.ref b_61_), .val (.int (1 : Int32)), .val (.int (x1 &&& (255 : Int32)))] [(.int (x1 &&& (255 : Int32))), (.ref b_61_)])) tT
      refine X68_.iaload hx (j := (x1 &&& (255 : Int32))) (v := (.int ((own_ft ([x0, x1] : List Int32) (2 : Int32).toNatClampNeg) (x1 &&& (255 : Int32))))) (own_rw p68__0 Ar71_.1) (State.isArrayOf_alike hZ.alike Ar71_.2.1) Ar71_.2.2 hin71_ hat71_ (g := (mkF mM 287 #[.val (.int p1), .val (.int p2), .val (.int p3), .val (.int p4), .val (.int (2 : Int32)), .val (.ref b1_), .val (.ref b48_), .val (.int vq), .val (.ref b_61_), .val (.int (1 : Int32)), .val (.int (x1 &&& (255 : Int32)))] [(.int (x1 &&& (255 : Int32))), (.ref b_61_)])) rfl rfl (Jvm.hb hby at_287) _ ?_
      show Steps pP.tables eE below (T68_.setTop (mkF mM 288 #[.val (.int p1), .val (.int p2), .val (.int p3), .val (.int p4), .val (.int (2 : Int32)), .val (.ref b1_), .val (.ref b48_), .val (.int vq), .val (.ref b_61_), .val (.int (1 : Int32)), .val (.int (x1 &&& (255 : Int32)))] [(.int ((own_ft ([x0, x1] : List Int32) (2 : Int32).toNatClampNeg) (x1 &&& (255 : Int32))))])) tT
      refine XS.iload X68_.here hx rfl (Jvm.hb hby at_288) rfl ?_
      show Steps pP.tables eE below (T68_.setTop (mkF mM 290 #[.val (.int p1), .val (.int p2), .val (.int p3), .val (.int p4), .val (.int (2 : Int32)), .val (.ref b1_), .val (.ref b48_), .val (.int vq), .val (.ref b_61_), .val (.int (1 : Int32)), .val (.int (x1 &&& (255 : Int32)))] [(.int (2 : Int32)), (.int ((own_ft ([x0, x1] : List Int32) (2 : Int32).toNatClampNeg) (x1 &&& (255 : Int32))))])) tT
      refine XS.iconst X68_.here hx rfl (Jvm.hb hby at_290) ?_
      show Steps pP.tables eE below (T68_.setTop (mkF mM 291 #[.val (.int p1), .val (.int p2), .val (.int p3), .val (.int p4), .val (.int (2 : Int32)), .val (.ref b1_), .val (.ref b48_), .val (.int vq), .val (.ref b_61_), .val (.int (1 : Int32)), .val (.int (x1 &&& (255 : Int32)))] [(.int (1 : Int32)), (.int (2 : Int32)), (.int ((own_ft ([x0, x1] : List Int32) (2 : Int32).toNatClampNeg) (x1 &&& (255 : Int32))))])) tT
      refine XS.isub X68_.here hx rfl (Jvm.hb hby at_291) rfl ?_
      show Steps pP.tables eE below (T68_.setTop (mkF mM 292 #[.val (.int p1), .val (.int p2), .val (.int p3), .val (.int p4), .val (.int (2 : Int32)), .val (.ref b1_), .val (.ref b48_), .val (.int vq), .val (.ref b_61_), .val (.int (1 : Int32)), .val (.int (x1 &&& (255 : Int32)))] [(.int (1 : Int32)), (.int ((own_ft ([x0, x1] : List Int32) (2 : Int32).toNatClampNeg) (x1 &&& (255 : Int32))))])) tT
      refine XS.icmpNo X68_.here hx rfl (Jvm.hb hby at_292) rfl (teq (own_last ([x0, x1] : List Int32) 1 : ((own_ft ([x0, x1] : List Int32) (2 : Int32).toNatClampNeg) (x1 &&& (255 : Int32))) = (1 : Int32))).2 ?_
      show Steps pP.tables eE below (T68_.setTop (mkF mM 295 #[.val (.int p1), .val (.int p2), .val (.int p3), .val (.int p4), .val (.int (2 : Int32)), .val (.ref b1_), .val (.ref b48_), .val (.int vq), .val (.ref b_61_), .val (.int (1 : Int32)), .val (.int (x1 &&& (255 : Int32)))] [])) tT
      refine XS.iconst X68_.here hx rfl (Jvm.hb hby at_295) ?_
      show Steps pP.tables eE below (T68_.setTop (mkF mM 296 #[.val (.int p1), .val (.int p2), .val (.int p3), .val (.int p4), .val (.int (2 : Int32)), .val (.ref b1_), .val (.ref b48_), .val (.int vq), .val (.ref b_61_), .val (.int (1 : Int32)), .val (.int (x1 &&& (255 : Int32)))] [(.int (1 : Int32))])) tT
      refine XS.goto X68_.here hx rfl (pc0 := 296) (pc' := 300) rfl (Jvm.hb hby at_296) (by decide) (by decide) ?_
      show Steps pP.tables eE below (T68_.setTop (mkF mM 300 #[.val (.int p1), .val (.int p2), .val (.int p3), .val (.int p4), .val (.int (2 : Int32)), .val (.ref b1_), .val (.ref b48_), .val (.int vq), .val (.ref b_61_), .val (.int (1 : Int32)), .val (.int (x1 &&& (255 : Int32)))] [(.int (1 : Int32))])) tT
      refine XS.istore X68_.here hx rfl (Jvm.hb hby at_300) rfl (l' := #[.val (.int p1), .val (.int p2), .val (.int p3), .val (.int p4), .val (.int (2 : Int32)), .val (.ref b1_), .val (.ref b48_), .val (.int vq), .val (.ref b_61_), .val (.int (1 : Int32)), .val (.int (x1 &&& (255 : Int32)))]) rfl ?_
      show Steps pP.tables eE below (T68_.setTop (mkF mM 302 #[.val (.int p1), .val (.int p2), .val (.int p3), .val (.int p4), .val (.int (2 : Int32)), .val (.ref b1_), .val (.ref b48_), .val (.int vq), .val (.ref b_61_), .val (.int (1 : Int32)), .val (.int (x1 &&& (255 : Int32)))] [])) tT
      refine XS.iload X68_.here hx rfl (Jvm.hb hby at_302) rfl ?_
      show Steps pP.tables eE below (T68_.setTop (mkF mM 304 #[.val (.int p1), .val (.int p2), .val (.int p3), .val (.int p4), .val (.int (2 : Int32)), .val (.ref b1_), .val (.ref b48_), .val (.int vq), .val (.ref b_61_), .val (.int (1 : Int32)), .val (.int (x1 &&& (255 : Int32)))] [(.int (1 : Int32))])) tT
      exact kK
    obtain ⟨fs, hr, hrun, hended, hW, hsame⟩ := X68_.leave (v := some (.int (1 : Int32))) (fun h => by rw [Bd.returns] at h; cases h)
    refine ⟨_, _, ?_, hrun, hended, _, _, rfl, ?_, ⟨_, rfl⟩, hW, hsame.mono (by decide) (by decide)⟩
    · show Steps pP.tables eE below (T68_.setTop (mkF mM 304 #[.val (.int p1), .val (.int p2), .val (.int p3), .val (.int p4), .val (.int (2 : Int32)), .val (.ref b1_), .val (.ref b48_), .val (.int vq), .val (.ref b_61_), .val (.int (1 : Int32)), .val (.int (x1 &&& (255 : Int32)))] [(.int (1 : Int32))])) _
      exact retN X68_ hx (t := .boolean) Bd.returns (by simp) (Jvm.hb hby at_304) hr
    · show Q_rm0 Z p1 p2 p3 p4 h0 n0 _ T68_.heap _
      rw [p68__0]
      exact ⟨rfl, N68_⟩
  · show own_Fin pP eE below _ (T17_.setTop (mkF mM 83 #[.val (.int p1), .val (.int p2), .val (.int p3), .val (.int p4), .val (.int (3 : Int32)), .val (.ref b1_), .unset, .unset, .unset, .unset, .unset] []))
    refine own_fin (b := T17_.setTop (mkF mM 85 #[.val (.int p1), .val (.int p2), .val (.int p3), .val (.int p4), .val (.int (3 : Int32)), .val (.ref b1_), .unset, .unset, .unset, .unset, .unset] [(.int (3 : Int32))])) (fun tT kK => ?_) ?_
    · show Steps pP.tables eE below (T17_.setTop (mkF mM 83 #[.val (.int p1), .val (.int p2), .val (.int p3), .val (.int p4), .val (.int (3 : Int32)), .val (.ref b1_), .unset, .unset, .unset, .unset, .unset] [])) tT
      refine XS.iload X17_.here hx rfl (Jvm.hb hby at_83) rfl ?_
      show Steps pP.tables eE below (T17_.setTop (mkF mM 85 #[.val (.int p1), .val (.int p2), .val (.int p3), .val (.int p4), .val (.int (3 : Int32)), .val (.ref b1_), .unset, .unset, .unset, .unset, .unset] [(.int (3 : Int32))])) tT
      exact kK
    obtain ⟨T72_, h72_, k72_, X72_, e72_, E72_, A72_, st72_⟩ := newP X17_ hx hZ (hw _ (List.mem_of_getElem? (i := 0) rfl)) e17_ (g := (mkF mM 85 #[.val (.int p1), .val (.int p2), .val (.int p3), .val (.int p4), .val (.int (3 : Int32)), .val (.ref b1_), .unset, .unset, .unset, .unset, .unset] [(.int (3 : Int32))])) rfl (Jvm.hb hby at_85) rfl (by decide) (cap := 3) (by decide) (by decide) (by decide) (by decide)
    obtain ⟨b72_, g72_⟩ : ∃ z, z = h17_.size := ⟨_, rfl⟩
    rw [← g72_] at A72_ st72_
    have sz_b72_ : h0.size ≤ b72_ := Nat.le_trans K17_.1 (Nat.le_of_eq g72_.symm)
    have ge_b72_ : n0 ≤ b72_ := Nat.le_trans Z0 sz_b72_
    have ne73_ : b1_ ≠ b72_ := Nat.ne_of_lt (Nat.lt_of_lt_of_le V17_.lt (Nat.le_of_eq g72_.symm))
    have fc74_ := V17_.ext E72_
    have K72_ := K17_.ext E72_
    have V72_ : Arv Z h72_ b72_ k72_ .byte (3 : Int32) [(.int (0 : Int32)), (.int (0 : Int32)), (.int (0 : Int32))] (.int (0 : Int32)) := (Arv.new A72_ (by decide)).pad (pad_rep [] (.int (0 : Int32)) 3)
    refine own_fin st72_ ?_
    show own_Fin pP eE below _ (T72_.setTop (mkF mM 87 #[.val (.int p1), .val (.int p2), .val (.int p3), .val (.int p4), .val (.int (3 : Int32)), .val (.ref b1_), .unset, .unset, .unset, .unset, .unset] [(.ref b72_)]))
    refine own_fin (b := T72_.setTop (mkF mM 100 #[.val (.int p1), .val (.int p2), .val (.int p3), .val (.int p4), .val (.int (3 : Int32)), .val (.ref b1_), .val (.ref b72_), .unset, .unset, .unset, .unset] [(.int (0 : Int32)), (.ref b1_), (.int (0 : Int32)), (.ref b72_)])) (fun tT kK => ?_) ?_
    · show Steps pP.tables eE below (T72_.setTop (mkF mM 87 #[.val (.int p1), .val (.int p2), .val (.int p3), .val (.int p4), .val (.int (3 : Int32)), .val (.ref b1_), .unset, .unset, .unset, .unset, .unset] [(.ref b72_)])) tT
      refine XS.astore X72_.here hx rfl (Jvm.hb hby at_87) rfl rfl (l' := #[.val (.int p1), .val (.int p2), .val (.int p3), .val (.int p4), .val (.int (3 : Int32)), .val (.ref b1_), .val (.ref b72_), .unset, .unset, .unset, .unset]) rfl ?_
      show Steps pP.tables eE below (T72_.setTop (mkF mM 89 #[.val (.int p1), .val (.int p2), .val (.int p3), .val (.int p4), .val (.int (3 : Int32)), .val (.ref b1_), .val (.ref b72_), .unset, .unset, .unset, .unset] [])) tT
      refine XS.iload X72_.here hx rfl (Jvm.hb hby at_89) rfl ?_
      show Steps pP.tables eE below (T72_.setTop (mkF mM 91 #[.val (.int p1), .val (.int p2), .val (.int p3), .val (.int p4), .val (.int (3 : Int32)), .val (.ref b1_), .val (.ref b72_), .unset, .unset, .unset, .unset] [(.int (3 : Int32))])) tT
      refine XS.ifNo X72_.here hx rfl (Jvm.hb hby at_91) rfl ((if0 _ _).trans (tlt ((by decide) : (0 : Int32) < (3 : Int32))).2.2.2) ?_
      show Steps pP.tables eE below (T72_.setTop (mkF mM 94 #[.val (.int p1), .val (.int p2), .val (.int p3), .val (.int p4), .val (.int (3 : Int32)), .val (.ref b1_), .val (.ref b72_), .unset, .unset, .unset, .unset] [])) tT
      refine XS.aload X72_.here hx rfl (Jvm.hb hby at_94) rfl rfl ?_
      show Steps pP.tables eE below (T72_.setTop (mkF mM 96 #[.val (.int p1), .val (.int p2), .val (.int p3), .val (.int p4), .val (.int (3 : Int32)), .val (.ref b1_), .val (.ref b72_), .unset, .unset, .unset, .unset] [(.ref b72_)])) tT
      refine XS.iconst X72_.here hx rfl (Jvm.hb hby at_96) ?_
      show Steps pP.tables eE below (T72_.setTop (mkF mM 97 #[.val (.int p1), .val (.int p2), .val (.int p3), .val (.int p4), .val (.int (3 : Int32)), .val (.ref b1_), .val (.ref b72_), .unset, .unset, .unset, .unset] [(.int (0 : Int32)), (.ref b72_)])) tT
      refine XS.aload X72_.here hx rfl (Jvm.hb hby at_97) rfl rfl ?_
      show Steps pP.tables eE below (T72_.setTop (mkF mM 99 #[.val (.int p1), .val (.int p2), .val (.int p3), .val (.int p4), .val (.int (3 : Int32)), .val (.ref b1_), .val (.ref b72_), .unset, .unset, .unset, .unset] [(.ref b1_), (.int (0 : Int32)), (.ref b72_)])) tT
      refine XS.iconst X72_.here hx rfl (Jvm.hb hby at_99) ?_
      show Steps pP.tables eE below (T72_.setTop (mkF mM 100 #[.val (.int p1), .val (.int p2), .val (.int p3), .val (.int p4), .val (.int (3 : Int32)), .val (.ref b1_), .val (.ref b72_), .unset, .unset, .unset, .unset] [(.int (0 : Int32)), (.ref b1_), (.int (0 : Int32)), (.ref b72_)])) tT
      exact kK
    obtain ⟨cl75_, Ar75_, qk75_, Sz75_, Nn75_, Hh75_, Gg75_⟩ := id fc74_
    have hin76_ : ¬ ((0 : Int32) < 0 ∨ cl75_.slots.size ≤ ((0 : Int32)).toNatClampNeg) := inb_of Sz75_ ⟨by decide, by decide⟩
    have hat76_ : cl75_.slots[((0 : Int32)).toNatClampNeg]? = some (.int x0) := Hh75_.at hin76_ rfl
    refine own_fin (b := T72_.setTop (mkF mM 101 #[.val (.int p1), .val (.int p2), .val (.int p3), .val (.int p4), .val (.int (3 : Int32)), .val (.ref b1_), .val (.ref b72_), .unset, .unset, .unset, .unset] [(.int x0), (.int (0 : Int32)), (.ref b72_)])) (fun tT kK => ?_) ?_
    · show Steps pP.tables eE below (T72_.setTop (mkF mM 100 #[.val (.int p1), .val (.int p2), .val (.int p3), .val (.int p4), .val (.int (3 : Int32)), .val (.ref b1_), .val (.ref b72_), .unset, .unset, .unset, .unset] [(.int (0 : Int32)), (.ref b1_), (.int (0 : Int32)), (.ref b72_)])) tT
      refine X72_.baloadBytes hx (j := (0 : Int32)) (v := (.int x0)) (own_rw e72_ Ar75_.1) (State.isArrayOf_alike hZ.alike Ar75_.2.1) Ar75_.2.2 hin76_ hat76_ (g := (mkF mM 100 #[.val (.int p1), .val (.int p2), .val (.int p3), .val (.int p4), .val (.int (3 : Int32)), .val (.ref b1_), .val (.ref b72_), .unset, .unset, .unset, .unset] [(.int (0 : Int32)), (.ref b1_), (.int (0 : Int32)), (.ref b72_)])) rfl rfl (Jvm.hb hby at_100) _ ?_
      show Steps pP.tables eE below (T72_.setTop (mkF mM 101 #[.val (.int p1), .val (.int p2), .val (.int p3), .val (.int p4), .val (.int (3 : Int32)), .val (.ref b1_), .val (.ref b72_), .unset, .unset, .unset, .unset] [(.int x0), (.int (0 : Int32)), (.ref b72_)])) tT
      exact kK
    obtain ⟨cl77_, Ar77_, qk77_, Sz77_, Nn77_, Hh77_, Gg77_⟩ := id V72_
    have hin78_ : ¬ ((0 : Int32) < 0 ∨ cl77_.slots.size ≤ ((0 : Int32)).toNatClampNeg) := inb_of Sz77_ ⟨by decide, by decide⟩
    obtain ⟨T78_, h78_, X78_, e78_, W78_, st78_⟩ := stB X72_ hx hZ e72_ Ar77_ (j := (0 : Int32)) hin78_ (g := (mkF mM 101 #[.val (.int p1), .val (.int p2), .val (.int p3), .val (.int p4), .val (.int (3 : Int32)), .val (.ref b1_), .val (.ref b72_), .unset, .unset, .unset, .unset] [(.int x0), (.int (0 : Int32)), (.ref b72_)])) rfl rfl (Jvm.hb hby at_101)
    have V78_ : Arv Z h78_ b72_ k72_ .byte (3 : Int32) [(.int (nar .byte x0)), (.int (0 : Int32)), (.int (0 : Int32))] (.int (0 : Int32)) := Arv.set Ar77_ qk77_ Sz77_ Nn77_ Hh77_ Gg77_ (fits_nar_byte _) W78_ 0 rfl (Nat.le_of_ble_eq_true rfl)
    have fc79_ := fc74_.other W78_ ne73_
    have K78_ := K72_.wr W78_ (Or.inr sz_b72_)
    have N78_ := Fr.snoc X78_ N17_ ge_b72_
    refine own_fin st78_ ?_
    show own_Fin pP eE below _ (T78_.setTop (mkF mM 102 #[.val (.int p1), .val (.int p2), .val (.int p3), .val (.int p4), .val (.int (3 : Int32)), .val (.ref b1_), .val (.ref b72_), .unset, .unset, .unset, .unset] []))
    refine own_fin (b := T78_.setTop (mkF mM 114 #[.val (.int p1), .val (.int p2), .val (.int p3), .val (.int p4), .val (.int (3 : Int32)), .val (.ref b1_), .val (.ref b72_), .unset, .unset, .unset, .unset] [(.int (1 : Int32)), (.ref b1_), (.int (1 : Int32)), (.ref b72_)])) (fun tT kK => ?_) ?_
    · show Steps pP.tables eE below (T78_.setTop (mkF mM 102 #[.val (.int p1), .val (.int p2), .val (.int p3), .val (.int p4), .val (.int (3 : Int32)), .val (.ref b1_), .val (.ref b72_), .unset, .unset, .unset, .unset] [])) tT
      refine XS.iload X78_.here hx rfl (Jvm.hb hby at_102) rfl ?_
      show Steps pP.tables eE below (T78_.setTop (mkF mM 104 #[.val (.int p1), .val (.int p2), .val (.int p3), .val (.int p4), .val (.int (3 : Int32)), .val (.ref b1_), .val (.ref b72_), .unset, .unset, .unset, .unset] [(.int (3 : Int32))])) tT
      refine XS.iconst X78_.here hx rfl (Jvm.hb hby at_104) ?_
      show Steps pP.tables eE below (T78_.setTop (mkF mM 105 #[.val (.int p1), .val (.int p2), .val (.int p3), .val (.int p4), .val (.int (3 : Int32)), .val (.ref b1_), .val (.ref b72_), .unset, .unset, .unset, .unset] [(.int (1 : Int32)), (.int (3 : Int32))])) tT
      refine XS.icmpNo X78_.here hx rfl (Jvm.hb hby at_105) rfl (tlt ((by decide) : (1 : Int32) < (3 : Int32))).2.2.2 ?_
      show Steps pP.tables eE below (T78_.setTop (mkF mM 108 #[.val (.int p1), .val (.int p2), .val (.int p3), .val (.int p4), .val (.int (3 : Int32)), .val (.ref b1_), .val (.ref b72_), .unset, .unset, .unset, .unset] [])) tT
      refine XS.aload X78_.here hx rfl (Jvm.hb hby at_108) rfl rfl ?_
      show Steps pP.tables eE below (T78_.setTop (mkF mM 110 #[.val (.int p1), .val (.int p2), .val (.int p3), .val (.int p4), .val (.int (3 : Int32)), .val (.ref b1_), .val (.ref b72_), .unset, .unset, .unset, .unset] [(.ref b72_)])) tT
      refine XS.iconst X78_.here hx rfl (Jvm.hb hby at_110) ?_
      show Steps pP.tables eE below (T78_.setTop (mkF mM 111 #[.val (.int p1), .val (.int p2), .val (.int p3), .val (.int p4), .val (.int (3 : Int32)), .val (.ref b1_), .val (.ref b72_), .unset, .unset, .unset, .unset] [(.int (1 : Int32)), (.ref b72_)])) tT
      refine XS.aload X78_.here hx rfl (Jvm.hb hby at_111) rfl rfl ?_
      show Steps pP.tables eE below (T78_.setTop (mkF mM 113 #[.val (.int p1), .val (.int p2), .val (.int p3), .val (.int p4), .val (.int (3 : Int32)), .val (.ref b1_), .val (.ref b72_), .unset, .unset, .unset, .unset] [(.ref b1_), (.int (1 : Int32)), (.ref b72_)])) tT
      refine XS.iconst X78_.here hx rfl (Jvm.hb hby at_113) ?_
      show Steps pP.tables eE below (T78_.setTop (mkF mM 114 #[.val (.int p1), .val (.int p2), .val (.int p3), .val (.int p4), .val (.int (3 : Int32)), .val (.ref b1_), .val (.ref b72_), .unset, .unset, .unset, .unset] [(.int (1 : Int32)), (.ref b1_), (.int (1 : Int32)), (.ref b72_)])) tT
      exact kK
    obtain ⟨cl80_, Ar80_, qk80_, Sz80_, Nn80_, Hh80_, Gg80_⟩ := id fc79_
    have hin81_ : ¬ ((1 : Int32) < 0 ∨ cl80_.slots.size ≤ ((1 : Int32)).toNatClampNeg) := inb_of Sz80_ ⟨by decide, by decide⟩
    have hat81_ : cl80_.slots[((1 : Int32)).toNatClampNeg]? = some (.int x1) := Hh80_.at hin81_ rfl
    refine own_fin (b := T78_.setTop (mkF mM 115 #[.val (.int p1), .val (.int p2), .val (.int p3), .val (.int p4), .val (.int (3 : Int32)), .val (.ref b1_), .val (.ref b72_), .unset, .unset, .unset, .unset] [(.int x1), (.int (1 : Int32)), (.ref b72_)])) (fun tT kK => ?_) ?_
    · show Steps pP.tables eE below (T78_.setTop (mkF mM 114 #[.val (.int p1), .val (.int p2), .val (.int p3), .val (.int p4), .val (.int (3 : Int32)), .val (.ref b1_), .val (.ref b72_), .unset, .unset, .unset, .unset] [(.int (1 : Int32)), (.ref b1_), (.int (1 : Int32)), (.ref b72_)])) tT
      refine X78_.baloadBytes hx (j := (1 : Int32)) (v := (.int x1)) (own_rw e78_ Ar80_.1) (State.isArrayOf_alike hZ.alike Ar80_.2.1) Ar80_.2.2 hin81_ hat81_ (g := (mkF mM 114 #[.val (.int p1), .val (.int p2), .val (.int p3), .val (.int p4), .val (.int (3 : Int32)), .val (.ref b1_), .val (.ref b72_), .unset, .unset, .unset, .unset] [(.int (1 : Int32)), (.ref b1_), (.int (1 : Int32)), (.ref b72_)])) rfl rfl (Jvm.hb hby at_114) _ ?_
      show Steps pP.tables eE below (T78_.setTop (mkF mM 115 #[.val (.int p1), .val (.int p2), .val (.int p3), .val (.int p4), .val (.int (3 : Int32)), .val (.ref b1_), .val (.ref b72_), .unset, .unset, .unset, .unset] [(.int x1), (.int (1 : Int32)), (.ref b72_)])) tT
      exact kK
    obtain ⟨cl82_, Ar82_, qk82_, Sz82_, Nn82_, Hh82_, Gg82_⟩ := id V78_
    have hin83_ : ¬ ((1 : Int32) < 0 ∨ cl82_.slots.size ≤ ((1 : Int32)).toNatClampNeg) := inb_of Sz82_ ⟨by decide, by decide⟩
    obtain ⟨T83_, h83_, X83_, e83_, W83_, st83_⟩ := stB X78_ hx hZ e78_ Ar82_ (j := (1 : Int32)) hin83_ (g := (mkF mM 115 #[.val (.int p1), .val (.int p2), .val (.int p3), .val (.int p4), .val (.int (3 : Int32)), .val (.ref b1_), .val (.ref b72_), .unset, .unset, .unset, .unset] [(.int x1), (.int (1 : Int32)), (.ref b72_)])) rfl rfl (Jvm.hb hby at_115)
    have V83_ : Arv Z h83_ b72_ k72_ .byte (3 : Int32) [(.int (nar .byte x0)), (.int (nar .byte x1)), (.int (0 : Int32))] (.int (0 : Int32)) := Arv.set Ar82_ qk82_ Sz82_ Nn82_ Hh82_ Gg82_ (fits_nar_byte _) W83_ 1 rfl (Nat.le_of_ble_eq_true rfl)
    have fc84_ := fc79_.other W83_ ne73_
    have K83_ := K78_.wr W83_ (Or.inr sz_b72_)
    have N83_ := Fr.snoc X83_ N78_ ge_b72_
    refine own_fin st83_ ?_
    show own_Fin pP eE below _ (T83_.setTop (mkF mM 116 #[.val (.int p1), .val (.int p2), .val (.int p3), .val (.int p4), .val (.int (3 : Int32)), .val (.ref b1_), .val (.ref b72_), .unset, .unset, .unset, .unset] []))
    refine own_fin (b := T83_.setTop (mkF mM 128 #[.val (.int p1), .val (.int p2), .val (.int p3), .val (.int p4), .val (.int (3 : Int32)), .val (.ref b1_), .val (.ref b72_), .unset, .unset, .unset, .unset] [(.int (2 : Int32)), (.ref b1_), (.int (2 : Int32)), (.ref b72_)])) (fun tT kK => ?_) ?_
    · show Steps pP.tables eE below (T83_.setTop (mkF mM 116 #[.val (.int p1), .val (.int p2), .val (.int p3), .val (.int p4), .val (.int (3 : Int32)), .val (.ref b1_), .val (.ref b72_), .unset, .unset, .unset, .unset] [])) tT
      refine XS.iload X83_.here hx rfl (Jvm.hb hby at_116) rfl ?_
      show Steps pP.tables eE below (T83_.setTop (mkF mM 118 #[.val (.int p1), .val (.int p2), .val (.int p3), .val (.int p4), .val (.int (3 : Int32)), .val (.ref b1_), .val (.ref b72_), .unset, .unset, .unset, .unset] [(.int (3 : Int32))])) tT
      refine XS.iconst X83_.here hx rfl (Jvm.hb hby at_118) ?_
      show Steps pP.tables eE below (T83_.setTop (mkF mM 119 #[.val (.int p1), .val (.int p2), .val (.int p3), .val (.int p4), .val (.int (3 : Int32)), .val (.ref b1_), .val (.ref b72_), .unset, .unset, .unset, .unset] [(.int (2 : Int32)), (.int (3 : Int32))])) tT
      refine XS.icmpNo X83_.here hx rfl (Jvm.hb hby at_119) rfl (tlt ((by decide) : (2 : Int32) < (3 : Int32))).2.2.2 ?_
      show Steps pP.tables eE below (T83_.setTop (mkF mM 122 #[.val (.int p1), .val (.int p2), .val (.int p3), .val (.int p4), .val (.int (3 : Int32)), .val (.ref b1_), .val (.ref b72_), .unset, .unset, .unset, .unset] [])) tT
      refine XS.aload X83_.here hx rfl (Jvm.hb hby at_122) rfl rfl ?_
      show Steps pP.tables eE below (T83_.setTop (mkF mM 124 #[.val (.int p1), .val (.int p2), .val (.int p3), .val (.int p4), .val (.int (3 : Int32)), .val (.ref b1_), .val (.ref b72_), .unset, .unset, .unset, .unset] [(.ref b72_)])) tT
      refine XS.iconst X83_.here hx rfl (Jvm.hb hby at_124) ?_
      show Steps pP.tables eE below (T83_.setTop (mkF mM 125 #[.val (.int p1), .val (.int p2), .val (.int p3), .val (.int p4), .val (.int (3 : Int32)), .val (.ref b1_), .val (.ref b72_), .unset, .unset, .unset, .unset] [(.int (2 : Int32)), (.ref b72_)])) tT
      refine XS.aload X83_.here hx rfl (Jvm.hb hby at_125) rfl rfl ?_
      show Steps pP.tables eE below (T83_.setTop (mkF mM 127 #[.val (.int p1), .val (.int p2), .val (.int p3), .val (.int p4), .val (.int (3 : Int32)), .val (.ref b1_), .val (.ref b72_), .unset, .unset, .unset, .unset] [(.ref b1_), (.int (2 : Int32)), (.ref b72_)])) tT
      refine XS.iconst X83_.here hx rfl (Jvm.hb hby at_127) ?_
      show Steps pP.tables eE below (T83_.setTop (mkF mM 128 #[.val (.int p1), .val (.int p2), .val (.int p3), .val (.int p4), .val (.int (3 : Int32)), .val (.ref b1_), .val (.ref b72_), .unset, .unset, .unset, .unset] [(.int (2 : Int32)), (.ref b1_), (.int (2 : Int32)), (.ref b72_)])) tT
      exact kK
    obtain ⟨cl85_, Ar85_, qk85_, Sz85_, Nn85_, Hh85_, Gg85_⟩ := id fc84_
    have hin86_ : ¬ ((2 : Int32) < 0 ∨ cl85_.slots.size ≤ ((2 : Int32)).toNatClampNeg) := inb_of Sz85_ ⟨by decide, by decide⟩
    have hat86_ : cl85_.slots[((2 : Int32)).toNatClampNeg]? = some (.int x2) := Hh85_.at hin86_ rfl
    refine own_fin (b := T83_.setTop (mkF mM 129 #[.val (.int p1), .val (.int p2), .val (.int p3), .val (.int p4), .val (.int (3 : Int32)), .val (.ref b1_), .val (.ref b72_), .unset, .unset, .unset, .unset] [(.int x2), (.int (2 : Int32)), (.ref b72_)])) (fun tT kK => ?_) ?_
    · show Steps pP.tables eE below (T83_.setTop (mkF mM 128 #[.val (.int p1), .val (.int p2), .val (.int p3), .val (.int p4), .val (.int (3 : Int32)), .val (.ref b1_), .val (.ref b72_), .unset, .unset, .unset, .unset] [(.int (2 : Int32)), (.ref b1_), (.int (2 : Int32)), (.ref b72_)])) tT
      refine X83_.baloadBytes hx (j := (2 : Int32)) (v := (.int x2)) (own_rw e83_ Ar85_.1) (State.isArrayOf_alike hZ.alike Ar85_.2.1) Ar85_.2.2 hin86_ hat86_ (g := (mkF mM 128 #[.val (.int p1), .val (.int p2), .val (.int p3), .val (.int p4), .val (.int (3 : Int32)), .val (.ref b1_), .val (.ref b72_), .unset, .unset, .unset, .unset] [(.int (2 : Int32)), (.ref b1_), (.int (2 : Int32)), (.ref b72_)])) rfl rfl (Jvm.hb hby at_128) _ ?_
      show Steps pP.tables eE below (T83_.setTop (mkF mM 129 #[.val (.int p1), .val (.int p2), .val (.int p3), .val (.int p4), .val (.int (3 : Int32)), .val (.ref b1_), .val (.ref b72_), .unset, .unset, .unset, .unset] [(.int x2), (.int (2 : Int32)), (.ref b72_)])) tT
      exact kK
    obtain ⟨cl87_, Ar87_, qk87_, Sz87_, Nn87_, Hh87_, Gg87_⟩ := id V83_
    have hin88_ : ¬ ((2 : Int32) < 0 ∨ cl87_.slots.size ≤ ((2 : Int32)).toNatClampNeg) := inb_of Sz87_ ⟨by decide, by decide⟩
    obtain ⟨T88_, h88_, X88_, e88_, W88_, st88_⟩ := stB X83_ hx hZ e83_ Ar87_ (j := (2 : Int32)) hin88_ (g := (mkF mM 129 #[.val (.int p1), .val (.int p2), .val (.int p3), .val (.int p4), .val (.int (3 : Int32)), .val (.ref b1_), .val (.ref b72_), .unset, .unset, .unset, .unset] [(.int x2), (.int (2 : Int32)), (.ref b72_)])) rfl rfl (Jvm.hb hby at_129)
    have V88_ : Arv Z h88_ b72_ k72_ .byte (3 : Int32) [(.int (nar .byte x0)), (.int (nar .byte x1)), (.int (nar .byte x2))] (.int (0 : Int32)) := Arv.set Ar87_ qk87_ Sz87_ Nn87_ Hh87_ Gg87_ (fits_nar_byte _) W88_ 2 rfl (Nat.le_of_ble_eq_true rfl)
    have fc89_ := fc84_.other W88_ ne73_
    have K88_ := K83_.wr W88_ (Or.inr sz_b72_)
    have N88_ := Fr.snoc X88_ N83_ ge_b72_
    refine own_fin st88_ ?_
    show own_Fin pP eE below _ (T88_.setTop (mkF mM 130 #[.val (.int p1), .val (.int p2), .val (.int p3), .val (.int p4), .val (.int (3 : Int32)), .val (.ref b1_), .val (.ref b72_), .unset, .unset, .unset, .unset] []))
    refine own_fin (b := T88_.setTop (mkF mM 213 #[.val (.int p1), .val (.int p2), .val (.int p3), .val (.int p4), .val (.int (3 : Int32)), .val (.ref b1_), .val (.ref b72_), .val (.int (p4 &&& (255 : Int32))), .unset, .unset, .unset] [])) (fun tT kK => ?_) ?_
    · show Steps pP.tables eE below (T88_.setTop (mkF mM 130 #[.val (.int p1), .val (.int p2), .val (.int p3), .val (.int p4), .val (.int (3 : Int32)), .val (.ref b1_), .val (.ref b72_), .unset, .unset, .unset, .unset] [])) tT
      refine XS.iload X88_.here hx rfl (Jvm.hb hby at_130) rfl ?_
      show Steps pP.tables eE below (T88_.setTop (mkF mM 132 #[.val (.int p1), .val (.int p2), .val (.int p3), .val (.int p4), .val (.int (3 : Int32)), .val (.ref b1_), .val (.ref b72_), .unset, .unset, .unset, .unset] [(.int (3 : Int32))])) tT
      refine XS.iconst X88_.here hx rfl (Jvm.hb hby at_132) ?_
      show Steps pP.tables eE below (T88_.setTop (mkF mM 133 #[.val (.int p1), .val (.int p2), .val (.int p3), .val (.int p4), .val (.int (3 : Int32)), .val (.ref b1_), .val (.ref b72_), .unset, .unset, .unset, .unset] [(.int (3 : Int32)), (.int (3 : Int32))])) tT
      refine XS.icmpYes X88_.here hx rfl (pc0 := 133) (pc' := 144) rfl (Jvm.hb hby at_133) rfl (flt ((by decide) : ¬ ((3 : Int32) < (3 : Int32)))).2.2.2 (by decide) (by decide) ?_
      show Steps pP.tables eE below (T88_.setTop (mkF mM 144 #[.val (.int p1), .val (.int p2), .val (.int p3), .val (.int p4), .val (.int (3 : Int32)), .val (.ref b1_), .val (.ref b72_), .unset, .unset, .unset, .unset] [])) tT
      refine XS.iload X88_.here hx rfl (Jvm.hb hby at_144) rfl ?_
      show Steps pP.tables eE below (T88_.setTop (mkF mM 146 #[.val (.int p1), .val (.int p2), .val (.int p3), .val (.int p4), .val (.int (3 : Int32)), .val (.ref b1_), .val (.ref b72_), .unset, .unset, .unset, .unset] [(.int (3 : Int32))])) tT
      refine XS.iconst X88_.here hx rfl (Jvm.hb hby at_146) ?_
      show Steps pP.tables eE below (T88_.setTop (mkF mM 147 #[.val (.int p1), .val (.int p2), .val (.int p3), .val (.int p4), .val (.int (3 : Int32)), .val (.ref b1_), .val (.ref b72_), .unset, .unset, .unset, .unset] [(.int (4 : Int32)), (.int (3 : Int32))])) tT
      refine XS.icmpYes X88_.here hx rfl (pc0 := 147) (pc' := 158) rfl (Jvm.hb hby at_147) rfl (flt ((by decide) : ¬ ((4 : Int32) < (3 : Int32)))).2.2.2 (by decide) (by decide) ?_
      show Steps pP.tables eE below (T88_.setTop (mkF mM 158 #[.val (.int p1), .val (.int p2), .val (.int p3), .val (.int p4), .val (.int (3 : Int32)), .val (.ref b1_), .val (.ref b72_), .unset, .unset, .unset, .unset] [])) tT
      refine XS.iload X88_.here hx rfl (Jvm.hb hby at_158) rfl ?_
      show Steps pP.tables eE below (T88_.setTop (mkF mM 160 #[.val (.int p1), .val (.int p2), .val (.int p3), .val (.int p4), .val (.int (3 : Int32)), .val (.ref b1_), .val (.ref b72_), .unset, .unset, .unset, .unset] [(.int (3 : Int32))])) tT
      refine XS.iconst X88_.here hx rfl (Jvm.hb hby at_160) ?_
      show Steps pP.tables eE below (T88_.setTop (mkF mM 161 #[.val (.int p1), .val (.int p2), .val (.int p3), .val (.int p4), .val (.int (3 : Int32)), .val (.ref b1_), .val (.ref b72_), .unset, .unset, .unset, .unset] [(.int (5 : Int32)), (.int (3 : Int32))])) tT
      refine XS.icmpYes X88_.here hx rfl (pc0 := 161) (pc' := 172) rfl (Jvm.hb hby at_161) rfl (flt ((by decide) : ¬ ((5 : Int32) < (3 : Int32)))).2.2.2 (by decide) (by decide) ?_
      show Steps pP.tables eE below (T88_.setTop (mkF mM 172 #[.val (.int p1), .val (.int p2), .val (.int p3), .val (.int p4), .val (.int (3 : Int32)), .val (.ref b1_), .val (.ref b72_), .unset, .unset, .unset, .unset] [])) tT
      refine XS.iload X88_.here hx rfl (Jvm.hb hby at_172) rfl ?_
      show Steps pP.tables eE below (T88_.setTop (mkF mM 174 #[.val (.int p1), .val (.int p2), .val (.int p3), .val (.int p4), .val (.int (3 : Int32)), .val (.ref b1_), .val (.ref b72_), .unset, .unset, .unset, .unset] [(.int (3 : Int32))])) tT
      refine XS.bipush X88_.here hx rfl (Jvm.hb hby at_174) ?_
      show Steps pP.tables eE below (T88_.setTop (mkF mM 176 #[.val (.int p1), .val (.int p2), .val (.int p3), .val (.int p4), .val (.int (3 : Int32)), .val (.ref b1_), .val (.ref b72_), .unset, .unset, .unset, .unset] [(.int (6 : Int32)), (.int (3 : Int32))])) tT
      refine XS.icmpYes X88_.here hx rfl (pc0 := 176) (pc' := 189) rfl (Jvm.hb hby at_176) rfl (flt ((by decide) : ¬ ((6 : Int32) < (3 : Int32)))).2.2.2 (by decide) (by decide) ?_
      show Steps pP.tables eE below (T88_.setTop (mkF mM 189 #[.val (.int p1), .val (.int p2), .val (.int p3), .val (.int p4), .val (.int (3 : Int32)), .val (.ref b1_), .val (.ref b72_), .unset, .unset, .unset, .unset] [])) tT
      refine XS.iload X88_.here hx rfl (Jvm.hb hby at_189) rfl ?_
      show Steps pP.tables eE below (T88_.setTop (mkF mM 191 #[.val (.int p1), .val (.int p2), .val (.int p3), .val (.int p4), .val (.int (3 : Int32)), .val (.ref b1_), .val (.ref b72_), .unset, .unset, .unset, .unset] [(.int (3 : Int32))])) tT
      refine XS.bipush X88_.here hx rfl (Jvm.hb hby at_191) ?_
      show Steps pP.tables eE below (T88_.setTop (mkF mM 193 #[.val (.int p1), .val (.int p2), .val (.int p3), .val (.int p4), .val (.int (3 : Int32)), .val (.ref b1_), .val (.ref b72_), .unset, .unset, .unset, .unset] [(.int (7 : Int32)), (.int (3 : Int32))])) tT
      refine XS.icmpYes X88_.here hx rfl (pc0 := 193) (pc' := 206) rfl (Jvm.hb hby at_193) rfl (flt ((by decide) : ¬ ((7 : Int32) < (3 : Int32)))).2.2.2 (by decide) (by decide) ?_
      show Steps pP.tables eE below (T88_.setTop (mkF mM 206 #[.val (.int p1), .val (.int p2), .val (.int p3), .val (.int p4), .val (.int (3 : Int32)), .val (.ref b1_), .val (.ref b72_), .unset, .unset, .unset, .unset] [])) tT
      refine XS.iloadN X88_.here hx rfl (Jvm.hb hby at_206) rfl ?_
      show Steps pP.tables eE below (T88_.setTop (mkF mM 207 #[.val (.int p1), .val (.int p2), .val (.int p3), .val (.int p4), .val (.int (3 : Int32)), .val (.ref b1_), .val (.ref b72_), .unset, .unset, .unset, .unset] [(.int p4)])) tT
      refine XS.sipush X88_.here hx rfl (Jvm.hb hby at_207) ?_
      show Steps pP.tables eE below (T88_.setTop (mkF mM 210 #[.val (.int p1), .val (.int p2), .val (.int p3), .val (.int p4), .val (.int (3 : Int32)), .val (.ref b1_), .val (.ref b72_), .unset, .unset, .unset, .unset] [(.int (255 : Int32)), (.int p4)])) tT
      refine XS.iand X88_.here hx rfl (Jvm.hb hby at_210) rfl ?_
      show Steps pP.tables eE below (T88_.setTop (mkF mM 211 #[.val (.int p1), .val (.int p2), .val (.int p3), .val (.int p4), .val (.int (3 : Int32)), .val (.ref b1_), .val (.ref b72_), .unset, .unset, .unset, .unset] [(.int (p4 &&& (255 : Int32)))])) tT
      refine XS.istore X88_.here hx rfl (Jvm.hb hby at_211) rfl (l' := #[.val (.int p1), .val (.int p2), .val (.int p3), .val (.int p4), .val (.int (3 : Int32)), .val (.ref b1_), .val (.ref b72_), .val (.int (p4 &&& (255 : Int32))), .unset, .unset, .unset]) rfl ?_
      show Steps pP.tables eE below (T88_.setTop (mkF mM 213 #[.val (.int p1), .val (.int p2), .val (.int p3), .val (.int p4), .val (.int (3 : Int32)), .val (.ref b1_), .val (.ref b72_), .val (.int (p4 &&& (255 : Int32))), .unset, .unset, .unset] [])) tT
      exact kK
    show own_Fin pP eE below _ (T88_.setTop (mkF mM 213 #[.val (.int p1), .val (.int p2), .val (.int p3), .val (.int p4), .val (.int (3 : Int32)), .val (.ref b1_), .val (.ref b72_), .val (.int (p4 &&& (255 : Int32))), .unset, .unset, .unset] []))
    generalize hvq : (p4 &&& (255 : Int32)) = vq
    show own_Fin pP eE below _ (T88_.setTop (mkF mM 213 #[.val (.int p1), .val (.int p2), .val (.int p3), .val (.int p4), .val (.int (3 : Int32)), .val (.ref b1_), .val (.ref b72_), .val (.int vq), .unset, .unset, .unset] []))
    have hq := own_m255 p4
    rw [hvq] at hq
    have Vp : Arv Z h88_ b72_ k72_ .byte (3 : Int32) (([x0, x1, x2] : List Int32).map Value.int) (.int (0 : Int32)) := by have q := V88_; rw [hy0, hy1, hy2] at q; exact q
    refine own_fin (b := T88_.setTop (mkF mM 215 #[.val (.int p1), .val (.int p2), .val (.int p3), .val (.int p4), .val (.int (3 : Int32)), .val (.ref b1_), .val (.ref b72_), .val (.int vq), .unset, .unset, .unset] [(.ref b72_)])) (fun tT kK => ?_) ?_
    · show Steps pP.tables eE below (T88_.setTop (mkF mM 213 #[.val (.int p1), .val (.int p2), .val (.int p3), .val (.int p4), .val (.int (3 : Int32)), .val (.ref b1_), .val (.ref b72_), .val (.int vq), .unset, .unset, .unset] [])) tT
      refine XS.aload X88_.here hx rfl (Jvm.hb hby at_213) rfl rfl ?_
      show Steps pP.tables eE below (T88_.setTop (mkF mM 215 #[.val (.int p1), .val (.int p2), .val (.int p3), .val (.int p4), .val (.int (3 : Int32)), .val (.ref b1_), .val (.ref b72_), .val (.int vq), .unset, .unset, .unset] [(.ref b72_)])) tT
      exact kK
    obtain ⟨_, _, ⟨T90_, L90_, k90_, n90_⟩, -, X90_, ⟨Lc90_, hQ90_, l90_, y90_, z90_⟩, st90_⟩ := Jvm.LawKit.callS X88_ hx (y := (⟨"com/example/needlework/needlework/BoyerMoore", "rightmost", "([B)[I"⟩ : MethodName)) hown (mvT hZ (hw _ (List.mem_of_getElem? (i := 1) rfl))) (mvT hZ (hw _ (List.mem_of_getElem? (i := 2) rfl))) (mvT hZ (hw _ (List.mem_of_getElem? (i := 3) rfl))) (mvT hZ (hw _ (List.mem_of_getElem? (i := 4) rfl))) (by decide) (backOf (W := 0) (rm_right lL Z a0 hw [] b72_ k72_ (3 : Int32) ([x0, x1, x2] : List Int32) h88_ n0 (Nat.le_trans Z0 K88_.1) Vp) hZ (hw _ (List.mem_of_getElem? (i := 4) rfl)) (hw _ (List.mem_of_getElem? (i := 3) rfl)) (by decide) (by decide)) (g := (mkF mM 215 #[.val (.int p1), .val (.int p2), .val (.int p3), .val (.int p4), .val (.int (3 : Int32)), .val (.ref b1_), .val (.ref b72_), .val (.int vq), .unset, .unset, .unset] [(.ref b72_)])) rfl (by rw [hml]; rfl) (argsL := [(.ref b72_)]) (rest := []) (lenOf own_pd1 rfl) rfl (by show 2 * 0 + _ ≤ _; exact Nat.le_of_eq rfl) (Jvm.hb hby at_215) (fun _ _ => ⟨rfl, e88_, (by decide : 2 + 1 ≤ _), (by decide : 11 + 256 ≤ _)⟩)
    dsimp only [Pt.U, Pt.locs, Pt.cells, Pt.slots] at X90_ l90_ y90_ z90_ st90_ hQ90_
    subst l90_ y90_ z90_
    obtain ⟨b_90_, rfl, N90_q, p90__0, p90__1, p90__2⟩ := hQ90_
    have N90_ := Fr.app N88_ N90_q
    have sz_b_90_ : h0.size ≤ b_90_ := Nat.le_trans K88_.1 p90__1
    have ge_b_90_ : n0 ≤ b_90_ := Nat.le_trans Z0 sz_b_90_
    have ne91_ : b1_ ≠ b_90_ := Nat.ne_of_lt (Nat.lt_of_lt_of_le fc89_.lt p90__1)
    have ne92_ : b72_ ≠ b_90_ := Nat.ne_of_lt (Nat.lt_of_lt_of_le V88_.lt p90__1)
    have fc93_ := fc89_.keep p90__0 nin0
    have fc94_ := V88_.keep p90__0 nin0
    have K90_ := K88_.trans p90__0 all0
    refine own_fin (fun tT kK => st90_ tT kK) ?_
    show own_Fin pP eE below _ (T90_.setTop (mkF mM 218 #[.val (.int p1), .val (.int p2), .val (.int p3), .val (.int p4), .val (.int (3 : Int32)), .val (.ref b1_), .val (.ref b72_), .val (.int vq), .unset, .unset, .unset] [(.ref b_90_)]))
    refine own_fin (b := T90_.setTop (mkF mM 227 #[.val (.int p1), .val (.int p2), .val (.int p3), .val (.int p4), .val (.int (3 : Int32)), .val (.ref b1_), .val (.ref b72_), .val (.int vq), .val (.ref b_90_), .unset, .unset] [(.ref b_90_)])) (fun tT kK => ?_) ?_
    · show Steps pP.tables eE below (T90_.setTop (mkF mM 218 #[.val (.int p1), .val (.int p2), .val (.int p3), .val (.int p4), .val (.int (3 : Int32)), .val (.ref b1_), .val (.ref b72_), .val (.int vq), .unset, .unset, .unset] [(.ref b_90_)])) tT
      refine XS.astore X90_.here hx rfl (Jvm.hb hby at_218) rfl rfl (l' := #[.val (.int p1), .val (.int p2), .val (.int p3), .val (.int p4), .val (.int (3 : Int32)), .val (.ref b1_), .val (.ref b72_), .val (.int vq), .val (.ref b_90_), .unset, .unset]) rfl ?_
      show Steps pP.tables eE below (T90_.setTop (mkF mM 220 #[.val (.int p1), .val (.int p2), .val (.int p3), .val (.int p4), .val (.int (3 : Int32)), .val (.ref b1_), .val (.ref b72_), .val (.int vq), .val (.ref b_90_), .unset, .unset] [])) tT
      refine XS.aload X90_.here hx rfl (Jvm.hb hby at_220) rfl rfl ?_
      show Steps pP.tables eE below (T90_.setTop (mkF mM 222 #[.val (.int p1), .val (.int p2), .val (.int p3), .val (.int p4), .val (.int (3 : Int32)), .val (.ref b1_), .val (.ref b72_), .val (.int vq), .val (.ref b_90_), .unset, .unset] [(.ref b_90_)])) tT
      refine XS.ifnullNo X90_.here hx rfl (Jvm.hb hby at_222) rfl ?_
      show Steps pP.tables eE below (T90_.setTop (mkF mM 225 #[.val (.int p1), .val (.int p2), .val (.int p3), .val (.int p4), .val (.int (3 : Int32)), .val (.ref b1_), .val (.ref b72_), .val (.int vq), .val (.ref b_90_), .unset, .unset] [])) tT
      refine XS.aload X90_.here hx rfl (Jvm.hb hby at_225) rfl rfl ?_
      show Steps pP.tables eE below (T90_.setTop (mkF mM 227 #[.val (.int p1), .val (.int p2), .val (.int p3), .val (.int p4), .val (.int (3 : Int32)), .val (.ref b1_), .val (.ref b72_), .val (.int vq), .val (.ref b_90_), .unset, .unset] [(.ref b_90_)])) tT
      exact kK
    obtain ⟨cl95_, Ar95_, Sz95_, Nn95_, -⟩ := id p90__2
    refine own_fin (b := T90_.setTop (mkF mM 240 #[.val (.int p1), .val (.int p2), .val (.int p3), .val (.int p4), .val (.int (3 : Int32)), .val (.ref b1_), .val (.ref b72_), .val (.int vq), .val (.ref b_90_), .unset, .unset] [(.int vq), (.ref b_90_)])) (fun tT kK => ?_) ?_
    · show Steps pP.tables eE below (T90_.setTop (mkF mM 227 #[.val (.int p1), .val (.int p2), .val (.int p3), .val (.int p4), .val (.int (3 : Int32)), .val (.ref b1_), .val (.ref b72_), .val (.int vq), .val (.ref b_90_), .unset, .unset] [(.ref b_90_)])) tT
      refine X90_.arraylength hx (own_rw rfl Ar95_.1) (State.isArrayOf_alike hZ.alike Ar95_.2.1) (g := (mkF mM 227 #[.val (.int p1), .val (.int p2), .val (.int p3), .val (.int p4), .val (.int (3 : Int32)), .val (.ref b1_), .val (.ref b72_), .val (.int vq), .val (.ref b_90_), .unset, .unset] [(.ref b_90_)])) rfl rfl (Jvm.hb hby at_227) _ ?_
      rw [len_of Sz95_ Nn95_]
      show Steps pP.tables eE below (T90_.setTop (mkF mM 228 #[.val (.int p1), .val (.int p2), .val (.int p3), .val (.int p4), .val (.int (3 : Int32)), .val (.ref b1_), .val (.ref b72_), .val (.int vq), .val (.ref b_90_), .unset, .unset] [(.int (256 : Int32))])) tT
      refine XS.sipush X90_.here hx rfl (Jvm.hb hby at_228) ?_
      show Steps pP.tables eE below (T90_.setTop (mkF mM 231 #[.val (.int p1), .val (.int p2), .val (.int p3), .val (.int p4), .val (.int (3 : Int32)), .val (.ref b1_), .val (.ref b72_), .val (.int vq), .val (.ref b_90_), .unset, .unset] [(.int (256 : Int32)), (.int (256 : Int32))])) tT
      refine XS.icmpYes X90_.here hx rfl (pc0 := 231) (pc' := 236) rfl (Jvm.hb hby at_231) rfl (teq ((by decide) : (256 : Int32) = (256 : Int32))).1 (by decide) (by decide) ?_
      show Steps pP.tables eE below (T90_.setTop (mkF mM 236 #[.val (.int p1), .val (.int p2), .val (.int p3), .val (.int p4), .val (.int (3 : Int32)), .val (.ref b1_), .val (.ref b72_), .val (.int vq), .val (.ref b_90_), .unset, .unset] [])) tT
      refine XS.aload X90_.here hx rfl (Jvm.hb hby at_236) rfl rfl ?_
      show Steps pP.tables eE below (T90_.setTop (mkF mM 238 #[.val (.int p1), .val (.int p2), .val (.int p3), .val (.int p4), .val (.int (3 : Int32)), .val (.ref b1_), .val (.ref b72_), .val (.int vq), .val (.ref b_90_), .unset, .unset] [(.ref b_90_)])) tT
      refine XS.iload X90_.here hx rfl (Jvm.hb hby at_238) rfl ?_
      show Steps pP.tables eE below (T90_.setTop (mkF mM 240 #[.val (.int p1), .val (.int p2), .val (.int p3), .val (.int p4), .val (.int (3 : Int32)), .val (.ref b1_), .val (.ref b72_), .val (.int vq), .val (.ref b_90_), .unset, .unset] [(.int vq), (.ref b_90_)])) tT
      exact kK
    obtain ⟨cl96_, Ar96_, Sz96_, Nn96_, Hh96_⟩ := id p90__2
    have hin96_ : ¬ (vq < 0 ∨ cl96_.slots.size ≤ (vq).toNatClampNeg) := inb_of Sz96_ hq
    have hat96_ : cl96_.slots[(vq).toNatClampNeg]? = some (.int ((own_ft ([x0, x1, x2] : List Int32) (3 : Int32).toNatClampNeg) vq)) := Hh96_ _ hin96_
    refine own_fin (b := T90_.setTop (mkF mM 247 #[.val (.int p1), .val (.int p2), .val (.int p3), .val (.int p4), .val (.int (3 : Int32)), .val (.ref b1_), .val (.ref b72_), .val (.int vq), .val (.ref b_90_), .unset, .unset] [(.int vq), (.int (3 : Int32)), (.ref b1_), (.int ((own_ft ([x0, x1, x2] : List Int32) (3 : Int32).toNatClampNeg) vq))])) (fun tT kK => ?_) ?_
    · show Steps pP.tables eE below (T90_.setTop (mkF mM 240 #[.val (.int p1), .val (.int p2), .val (.int p3), .val (.int p4), .val (.int (3 : Int32)), .val (.ref b1_), .val (.ref b72_), .val (.int vq), .val (.ref b_90_), .unset, .unset] [(.int vq), (.ref b_90_)])) tT
      refine X90_.iaload hx (j := vq) (v := (.int ((own_ft ([x0, x1, x2] : List Int32) (3 : Int32).toNatClampNeg) vq))) (own_rw rfl Ar96_.1) (State.isArrayOf_alike hZ.alike Ar96_.2.1) Ar96_.2.2 hin96_ hat96_ (g := (mkF mM 240 #[.val (.int p1), .val (.int p2), .val (.int p3), .val (.int p4), .val (.int (3 : Int32)), .val (.ref b1_), .val (.ref b72_), .val (.int vq), .val (.ref b_90_), .unset, .unset] [(.int vq), (.ref b_90_)])) rfl rfl (Jvm.hb hby at_240) _ ?_
      show Steps pP.tables eE below (T90_.setTop (mkF mM 241 #[.val (.int p1), .val (.int p2), .val (.int p3), .val (.int p4), .val (.int (3 : Int32)), .val (.ref b1_), .val (.ref b72_), .val (.int vq), .val (.ref b_90_), .unset, .unset] [(.int ((own_ft ([x0, x1, x2] : List Int32) (3 : Int32).toNatClampNeg) vq))])) tT
      refine XS.aload X90_.here hx rfl (Jvm.hb hby at_241) rfl rfl ?_
      show Steps pP.tables eE below (T90_.setTop (mkF mM 243 #[.val (.int p1), .val (.int p2), .val (.int p3), .val (.int p4), .val (.int (3 : Int32)), .val (.ref b1_), .val (.ref b72_), .val (.int vq), .val (.ref b_90_), .unset, .unset] [(.ref b1_), (.int ((own_ft ([x0, x1, x2] : List Int32) (3 : Int32).toNatClampNeg) vq))])) tT
      refine XS.iload X90_.here hx rfl (Jvm.hb hby at_243) rfl ?_
      show Steps pP.tables eE below (T90_.setTop (mkF mM 245 #[.val (.int p1), .val (.int p2), .val (.int p3), .val (.int p4), .val (.int (3 : Int32)), .val (.ref b1_), .val (.ref b72_), .val (.int vq), .val (.ref b_90_), .unset, .unset] [(.int (3 : Int32)), (.ref b1_), (.int ((own_ft ([x0, x1, x2] : List Int32) (3 : Int32).toNatClampNeg) vq))])) tT
      refine XS.iload X90_.here hx rfl (Jvm.hb hby at_245) rfl ?_
      show Steps pP.tables eE below (T90_.setTop (mkF mM 247 #[.val (.int p1), .val (.int p2), .val (.int p3), .val (.int p4), .val (.int (3 : Int32)), .val (.ref b1_), .val (.ref b72_), .val (.int vq), .val (.ref b_90_), .unset, .unset] [(.int vq), (.int (3 : Int32)), (.ref b1_), (.int ((own_ft ([x0, x1, x2] : List Int32) (3 : Int32).toNatClampNeg) vq))])) tT
      exact kK
    obtain ⟨_, _, ⟨T97_, L97_, k97_, n97_⟩, -, X97_, ⟨Lc97_, hQ97_, l97_, y97_, z97_⟩, st97_⟩ := Jvm.LawKit.callS X90_ hx (y := (⟨"com/example/needlework/needlework/BoyerMooreRightmostPinLaw", "ref", "([BII)I"⟩ : MethodName)) hown (mvT hZ (hw _ (List.mem_of_getElem? (i := 10) rfl))) (mvT hZ (hw _ (List.mem_of_getElem? (i := 11) rfl))) (mvT hZ (hw _ (List.mem_of_getElem? (i := 12) rfl))) (mvT hZ (hw _ (List.mem_of_getElem? (i := 13) rfl))) (by decide) (backOf (W := 1) (rm_ref lL Z a0 hw [] b1_ k1_ (3 : Int32) vq x0 x1 x2 x3 x4 x5 x6 x7 T90_.heap n0 (Nat.le_trans Z0 K90_.1) fc93_) hZ (hw _ (List.mem_of_getElem? (i := 13) rfl)) (hw _ (List.mem_of_getElem? (i := 12) rfl)) (by decide) (by decide)) (g := (mkF mM 247 #[.val (.int p1), .val (.int p2), .val (.int p3), .val (.int p4), .val (.int (3 : Int32)), .val (.ref b1_), .val (.ref b72_), .val (.int vq), .val (.ref b_90_), .unset, .unset] [(.int vq), (.int (3 : Int32)), (.ref b1_), (.int ((own_ft ([x0, x1, x2] : List Int32) (3 : Int32).toNatClampNeg) vq))])) rfl (by rw [hml]; rfl) (argsL := [(.ref b1_), (.int (3 : Int32)), (.int vq)]) (rest := [(.int ((own_ft ([x0, x1, x2] : List Int32) (3 : Int32).toNatClampNeg) vq))]) (lenOf own_pd2 rfl) rfl (by show 2 * 0 + _ ≤ _; exact Nat.le_of_eq rfl) (Jvm.hb hby at_247) (fun _ _ => ⟨rfl, rfl, (by decide : 3 + 0 ≤ _), (by decide : 267 + 0 ≤ _)⟩)
    dsimp only [Pt.U, Pt.locs, Pt.cells, Pt.slots] at X97_ l97_ y97_ z97_ st97_ hQ97_
    subst l97_ y97_ z97_
    obtain ⟨rfl, N97_q, p97__0⟩ := hQ97_
    have N97_ := Fr.app N90_ N97_q
    refine own_fin (fun tT kK => st97_ tT kK) ?_
    show own_Fin pP eE below _ (T97_.setTop (mkF mM 250 #[.val (.int p1), .val (.int p2), .val (.int p3), .val (.int p4), .val (.int (3 : Int32)), .val (.ref b1_), .val (.ref b72_), .val (.int vq), .val (.ref b_90_), .unset, .unset] [(.int (own_ref (3 : Int32) vq x0 x1 x2 x3 x4 x5 x6 x7)), (.int ((own_ft ([x0, x1, x2] : List Int32) (3 : Int32).toNatClampNeg) vq))]))
    refine own_fin (b := T97_.setTop (mkF mM 271 #[.val (.int p1), .val (.int p2), .val (.int p3), .val (.int p4), .val (.int (3 : Int32)), .val (.ref b1_), .val (.ref b72_), .val (.int vq), .val (.ref b_90_), .val (.int (1 : Int32)), .unset] [(.int (2 : Int32)), (.ref b1_)])) (fun tT kK => ?_) ?_
    · show Steps pP.tables eE below (T97_.setTop (mkF mM 250 #[.val (.int p1), .val (.int p2), .val (.int p3), .val (.int p4), .val (.int (3 : Int32)), .val (.ref b1_), .val (.ref b72_), .val (.int vq), .val (.ref b_90_), .unset, .unset] [(.int (own_ref (3 : Int32) vq x0 x1 x2 x3 x4 x5 x6 x7)), (.int ((own_ft ([x0, x1, x2] : List Int32) (3 : Int32).toNatClampNeg) vq))])) tT
      refine XS.icmpNo X97_.here hx rfl (Jvm.hb hby at_250) rfl (teq (own_e3 vq x0 x1 x2 x3 x4 x5 x6 x7 : ((own_ft ([x0, x1, x2] : List Int32) (3 : Int32).toNatClampNeg) vq) = (own_ref (3 : Int32) vq x0 x1 x2 x3 x4 x5 x6 x7))).2 ?_
      show Steps pP.tables eE below (T97_.setTop (mkF mM 253 #[.val (.int p1), .val (.int p2), .val (.int p3), .val (.int p4), .val (.int (3 : Int32)), .val (.ref b1_), .val (.ref b72_), .val (.int vq), .val (.ref b_90_), .unset, .unset] [])) tT
      refine XS.iconst X97_.here hx rfl (Jvm.hb hby at_253) ?_
      show Steps pP.tables eE below (T97_.setTop (mkF mM 254 #[.val (.int p1), .val (.int p2), .val (.int p3), .val (.int p4), .val (.int (3 : Int32)), .val (.ref b1_), .val (.ref b72_), .val (.int vq), .val (.ref b_90_), .unset, .unset] [(.int (1 : Int32))])) tT
      refine XS.goto X97_.here hx rfl (pc0 := 254) (pc' := 258) rfl (Jvm.hb hby at_254) (by decide) (by decide) ?_
      show Steps pP.tables eE below (T97_.setTop (mkF mM 258 #[.val (.int p1), .val (.int p2), .val (.int p3), .val (.int p4), .val (.int (3 : Int32)), .val (.ref b1_), .val (.ref b72_), .val (.int vq), .val (.ref b_90_), .unset, .unset] [(.int (1 : Int32))])) tT
      refine XS.istore X97_.here hx rfl (Jvm.hb hby at_258) rfl (l' := #[.val (.int p1), .val (.int p2), .val (.int p3), .val (.int p4), .val (.int (3 : Int32)), .val (.ref b1_), .val (.ref b72_), .val (.int vq), .val (.ref b_90_), .val (.int (1 : Int32)), .unset]) rfl ?_
      show Steps pP.tables eE below (T97_.setTop (mkF mM 260 #[.val (.int p1), .val (.int p2), .val (.int p3), .val (.int p4), .val (.int (3 : Int32)), .val (.ref b1_), .val (.ref b72_), .val (.int vq), .val (.ref b_90_), .val (.int (1 : Int32)), .unset] [])) tT
      refine XS.iload X97_.here hx rfl (Jvm.hb hby at_260) rfl ?_
      show Steps pP.tables eE below (T97_.setTop (mkF mM 262 #[.val (.int p1), .val (.int p2), .val (.int p3), .val (.int p4), .val (.int (3 : Int32)), .val (.ref b1_), .val (.ref b72_), .val (.int vq), .val (.ref b_90_), .val (.int (1 : Int32)), .unset] [(.int (3 : Int32))])) tT
      refine XS.ifNo X97_.here hx rfl (Jvm.hb hby at_262) rfl ((if0 _ _).trans (tlt ((by decide) : (0 : Int32) < (3 : Int32))).2.2.2) ?_
      show Steps pP.tables eE below (T97_.setTop (mkF mM 265 #[.val (.int p1), .val (.int p2), .val (.int p3), .val (.int p4), .val (.int (3 : Int32)), .val (.ref b1_), .val (.ref b72_), .val (.int vq), .val (.ref b_90_), .val (.int (1 : Int32)), .unset] [])) tT
      refine XS.aload X97_.here hx rfl (Jvm.hb hby at_265) rfl rfl ?_
      show Steps pP.tables eE below (T97_.setTop (mkF mM 267 #[.val (.int p1), .val (.int p2), .val (.int p3), .val (.int p4), .val (.int (3 : Int32)), .val (.ref b1_), .val (.ref b72_), .val (.int vq), .val (.ref b_90_), .val (.int (1 : Int32)), .unset] [(.ref b1_)])) tT
      refine XS.iload X97_.here hx rfl (Jvm.hb hby at_267) rfl ?_
      show Steps pP.tables eE below (T97_.setTop (mkF mM 269 #[.val (.int p1), .val (.int p2), .val (.int p3), .val (.int p4), .val (.int (3 : Int32)), .val (.ref b1_), .val (.ref b72_), .val (.int vq), .val (.ref b_90_), .val (.int (1 : Int32)), .unset] [(.int (3 : Int32)), (.ref b1_)])) tT
      refine XS.iconst X97_.here hx rfl (Jvm.hb hby at_269) ?_
      show Steps pP.tables eE below (T97_.setTop (mkF mM 270 #[.val (.int p1), .val (.int p2), .val (.int p3), .val (.int p4), .val (.int (3 : Int32)), .val (.ref b1_), .val (.ref b72_), .val (.int vq), .val (.ref b_90_), .val (.int (1 : Int32)), .unset] [(.int (1 : Int32)), (.int (3 : Int32)), (.ref b1_)])) tT
      refine XS.isub X97_.here hx rfl (Jvm.hb hby at_270) rfl ?_
      show Steps pP.tables eE below (T97_.setTop (mkF mM 271 #[.val (.int p1), .val (.int p2), .val (.int p3), .val (.int p4), .val (.int (3 : Int32)), .val (.ref b1_), .val (.ref b72_), .val (.int vq), .val (.ref b_90_), .val (.int (1 : Int32)), .unset] [(.int (2 : Int32)), (.ref b1_)])) tT
      exact kK
    obtain ⟨cl98_, Ar98_, qk98_, Sz98_, Nn98_, Hh98_, Gg98_⟩ := id fc93_
    have hin99_ : ¬ ((2 : Int32) < 0 ∨ cl98_.slots.size ≤ ((2 : Int32)).toNatClampNeg) := inb_of Sz98_ ⟨by decide, by decide⟩
    have hat99_ : cl98_.slots[((2 : Int32)).toNatClampNeg]? = some (.int x2) := Hh98_.at hin99_ rfl
    refine own_fin (b := T97_.setTop (mkF mM 287 #[.val (.int p1), .val (.int p2), .val (.int p3), .val (.int p4), .val (.int (3 : Int32)), .val (.ref b1_), .val (.ref b72_), .val (.int vq), .val (.ref b_90_), .val (.int (1 : Int32)), .val (.int (x2 &&& (255 : Int32)))] [(.int (x2 &&& (255 : Int32))), (.ref b_90_)])) (fun tT kK => ?_) ?_
    · show Steps pP.tables eE below (T97_.setTop (mkF mM 271 #[.val (.int p1), .val (.int p2), .val (.int p3), .val (.int p4), .val (.int (3 : Int32)), .val (.ref b1_), .val (.ref b72_), .val (.int vq), .val (.ref b_90_), .val (.int (1 : Int32)), .unset] [(.int (2 : Int32)), (.ref b1_)])) tT
      refine X97_.baloadBytes hx (j := (2 : Int32)) (v := (.int x2)) (own_rw p97__0 Ar98_.1) (State.isArrayOf_alike hZ.alike Ar98_.2.1) Ar98_.2.2 hin99_ hat99_ (g := (mkF mM 271 #[.val (.int p1), .val (.int p2), .val (.int p3), .val (.int p4), .val (.int (3 : Int32)), .val (.ref b1_), .val (.ref b72_), .val (.int vq), .val (.ref b_90_), .val (.int (1 : Int32)), .unset] [(.int (2 : Int32)), (.ref b1_)])) rfl rfl (Jvm.hb hby at_271) _ ?_
      show Steps pP.tables eE below (T97_.setTop (mkF mM 272 #[.val (.int p1), .val (.int p2), .val (.int p3), .val (.int p4), .val (.int (3 : Int32)), .val (.ref b1_), .val (.ref b72_), .val (.int vq), .val (.ref b_90_), .val (.int (1 : Int32)), .unset] [(.int x2)])) tT
      refine XS.sipush X97_.here hx rfl (Jvm.hb hby at_272) ?_
      show Steps pP.tables eE below (T97_.setTop (mkF mM 275 #[.val (.int p1), .val (.int p2), .val (.int p3), .val (.int p4), .val (.int (3 : Int32)), .val (.ref b1_), .val (.ref b72_), .val (.int vq), .val (.ref b_90_), .val (.int (1 : Int32)), .unset] [(.int (255 : Int32)), (.int x2)])) tT
      refine XS.iand X97_.here hx rfl (Jvm.hb hby at_275) rfl ?_
      show Steps pP.tables eE below (T97_.setTop (mkF mM 276 #[.val (.int p1), .val (.int p2), .val (.int p3), .val (.int p4), .val (.int (3 : Int32)), .val (.ref b1_), .val (.ref b72_), .val (.int vq), .val (.ref b_90_), .val (.int (1 : Int32)), .unset] [(.int (x2 &&& (255 : Int32)))])) tT
      refine XS.istore X97_.here hx rfl (Jvm.hb hby at_276) rfl (l' := #[.val (.int p1), .val (.int p2), .val (.int p3), .val (.int p4), .val (.int (3 : Int32)), .val (.ref b1_), .val (.ref b72_), .val (.int vq), .val (.ref b_90_), .val (.int (1 : Int32)), .val (.int (x2 &&& (255 : Int32)))]) rfl ?_
      show Steps pP.tables eE below (T97_.setTop (mkF mM 278 #[.val (.int p1), .val (.int p2), .val (.int p3), .val (.int p4), .val (.int (3 : Int32)), .val (.ref b1_), .val (.ref b72_), .val (.int vq), .val (.ref b_90_), .val (.int (1 : Int32)), .val (.int (x2 &&& (255 : Int32)))] [])) tT
      refine XS.iload X97_.here hx rfl (Jvm.hb hby at_278) rfl ?_
      show Steps pP.tables eE below (T97_.setTop (mkF mM 280 #[.val (.int p1), .val (.int p2), .val (.int p3), .val (.int p4), .val (.int (3 : Int32)), .val (.ref b1_), .val (.ref b72_), .val (.int vq), .val (.ref b_90_), .val (.int (1 : Int32)), .val (.int (x2 &&& (255 : Int32)))] [(.int (1 : Int32))])) tT
      refine XS.ifNo X97_.here hx rfl (Jvm.hb hby at_280) rfl ((if0 _ _).trans (feq ((by decide) : ¬ ((1 : Int32) = (0 : Int32)))).1) ?_
      show Steps pP.tables eE below (T97_.setTop (mkF mM 283 #[.val (.int p1), .val (.int p2), .val (.int p3), .val (.int p4), .val (.int (3 : Int32)), .val (.ref b1_), .val (.ref b72_), .val (.int vq), .val (.ref b_90_), .val (.int (1 : Int32)), .val (.int (x2 &&& (255 : Int32)))] [])) tT
      refine XS.aload X97_.here hx rfl (Jvm.hb hby at_283) rfl rfl ?_
      show Steps pP.tables eE below (T97_.setTop (mkF mM 285 #[.val (.int p1), .val (.int p2), .val (.int p3), .val (.int p4), .val (.int (3 : Int32)), .val (.ref b1_), .val (.ref b72_), .val (.int vq), .val (.ref b_90_), .val (.int (1 : Int32)), .val (.int (x2 &&& (255 : Int32)))] [(.ref b_90_)])) tT
      refine XS.iload X97_.here hx rfl (Jvm.hb hby at_285) rfl ?_
      show Steps pP.tables eE below (T97_.setTop (mkF mM 287 #[.val (.int p1), .val (.int p2), .val (.int p3), .val (.int p4), .val (.int (3 : Int32)), .val (.ref b1_), .val (.ref b72_), .val (.int vq), .val (.ref b_90_), .val (.int (1 : Int32)), .val (.int (x2 &&& (255 : Int32)))] [(.int (x2 &&& (255 : Int32))), (.ref b_90_)])) tT
      exact kK
    obtain ⟨cl100_, Ar100_, Sz100_, Nn100_, Hh100_⟩ := id p90__2
    have hin100_ : ¬ ((x2 &&& (255 : Int32)) < 0 ∨ cl100_.slots.size ≤ ((x2 &&& (255 : Int32))).toNatClampNeg) := inb_of Sz100_ (own_m255 x2)
    have hat100_ : cl100_.slots[((x2 &&& (255 : Int32))).toNatClampNeg]? = some (.int ((own_ft ([x0, x1, x2] : List Int32) (3 : Int32).toNatClampNeg) (x2 &&& (255 : Int32)))) := Hh100_ _ hin100_
    refine own_fin (b := T97_.setTop (mkF mM 304 #[.val (.int p1), .val (.int p2), .val (.int p3), .val (.int p4), .val (.int (3 : Int32)), .val (.ref b1_), .val (.ref b72_), .val (.int vq), .val (.ref b_90_), .val (.int (1 : Int32)), .val (.int (x2 &&& (255 : Int32)))] [(.int (1 : Int32))])) (fun tT kK => ?_) ?_
    · show Steps pP.tables eE below (T97_.setTop (mkF mM 287 #[.val (.int p1), .val (.int p2), .val (.int p3), .val (.int p4), .val (.int (3 : Int32)), .val (.ref b1_), .val (.ref b72_), .val (.int vq), .val (.ref b_90_), .val (.int (1 : Int32)), .val (.int (x2 &&& (255 : Int32)))] [(.int (x2 &&& (255 : Int32))), (.ref b_90_)])) tT
      refine X97_.iaload hx (j := (x2 &&& (255 : Int32))) (v := (.int ((own_ft ([x0, x1, x2] : List Int32) (3 : Int32).toNatClampNeg) (x2 &&& (255 : Int32))))) (own_rw p97__0 Ar100_.1) (State.isArrayOf_alike hZ.alike Ar100_.2.1) Ar100_.2.2 hin100_ hat100_ (g := (mkF mM 287 #[.val (.int p1), .val (.int p2), .val (.int p3), .val (.int p4), .val (.int (3 : Int32)), .val (.ref b1_), .val (.ref b72_), .val (.int vq), .val (.ref b_90_), .val (.int (1 : Int32)), .val (.int (x2 &&& (255 : Int32)))] [(.int (x2 &&& (255 : Int32))), (.ref b_90_)])) rfl rfl (Jvm.hb hby at_287) _ ?_
      show Steps pP.tables eE below (T97_.setTop (mkF mM 288 #[.val (.int p1), .val (.int p2), .val (.int p3), .val (.int p4), .val (.int (3 : Int32)), .val (.ref b1_), .val (.ref b72_), .val (.int vq), .val (.ref b_90_), .val (.int (1 : Int32)), .val (.int (x2 &&& (255 : Int32)))] [(.int ((own_ft ([x0, x1, x2] : List Int32) (3 : Int32).toNatClampNeg) (x2 &&& (255 : Int32))))])) tT
      refine XS.iload X97_.here hx rfl (Jvm.hb hby at_288) rfl ?_
      show Steps pP.tables eE below (T97_.setTop (mkF mM 290 #[.val (.int p1), .val (.int p2), .val (.int p3), .val (.int p4), .val (.int (3 : Int32)), .val (.ref b1_), .val (.ref b72_), .val (.int vq), .val (.ref b_90_), .val (.int (1 : Int32)), .val (.int (x2 &&& (255 : Int32)))] [(.int (3 : Int32)), (.int ((own_ft ([x0, x1, x2] : List Int32) (3 : Int32).toNatClampNeg) (x2 &&& (255 : Int32))))])) tT
      refine XS.iconst X97_.here hx rfl (Jvm.hb hby at_290) ?_
      show Steps pP.tables eE below (T97_.setTop (mkF mM 291 #[.val (.int p1), .val (.int p2), .val (.int p3), .val (.int p4), .val (.int (3 : Int32)), .val (.ref b1_), .val (.ref b72_), .val (.int vq), .val (.ref b_90_), .val (.int (1 : Int32)), .val (.int (x2 &&& (255 : Int32)))] [(.int (1 : Int32)), (.int (3 : Int32)), (.int ((own_ft ([x0, x1, x2] : List Int32) (3 : Int32).toNatClampNeg) (x2 &&& (255 : Int32))))])) tT
      refine XS.isub X97_.here hx rfl (Jvm.hb hby at_291) rfl ?_
      show Steps pP.tables eE below (T97_.setTop (mkF mM 292 #[.val (.int p1), .val (.int p2), .val (.int p3), .val (.int p4), .val (.int (3 : Int32)), .val (.ref b1_), .val (.ref b72_), .val (.int vq), .val (.ref b_90_), .val (.int (1 : Int32)), .val (.int (x2 &&& (255 : Int32)))] [(.int (2 : Int32)), (.int ((own_ft ([x0, x1, x2] : List Int32) (3 : Int32).toNatClampNeg) (x2 &&& (255 : Int32))))])) tT
      refine XS.icmpNo X97_.here hx rfl (Jvm.hb hby at_292) rfl (teq (own_last ([x0, x1, x2] : List Int32) 2 : ((own_ft ([x0, x1, x2] : List Int32) (3 : Int32).toNatClampNeg) (x2 &&& (255 : Int32))) = (2 : Int32))).2 ?_
      show Steps pP.tables eE below (T97_.setTop (mkF mM 295 #[.val (.int p1), .val (.int p2), .val (.int p3), .val (.int p4), .val (.int (3 : Int32)), .val (.ref b1_), .val (.ref b72_), .val (.int vq), .val (.ref b_90_), .val (.int (1 : Int32)), .val (.int (x2 &&& (255 : Int32)))] [])) tT
      refine XS.iconst X97_.here hx rfl (Jvm.hb hby at_295) ?_
      show Steps pP.tables eE below (T97_.setTop (mkF mM 296 #[.val (.int p1), .val (.int p2), .val (.int p3), .val (.int p4), .val (.int (3 : Int32)), .val (.ref b1_), .val (.ref b72_), .val (.int vq), .val (.ref b_90_), .val (.int (1 : Int32)), .val (.int (x2 &&& (255 : Int32)))] [(.int (1 : Int32))])) tT
      refine XS.goto X97_.here hx rfl (pc0 := 296) (pc' := 300) rfl (Jvm.hb hby at_296) (by decide) (by decide) ?_
      show Steps pP.tables eE below (T97_.setTop (mkF mM 300 #[.val (.int p1), .val (.int p2), .val (.int p3), .val (.int p4), .val (.int (3 : Int32)), .val (.ref b1_), .val (.ref b72_), .val (.int vq), .val (.ref b_90_), .val (.int (1 : Int32)), .val (.int (x2 &&& (255 : Int32)))] [(.int (1 : Int32))])) tT
      refine XS.istore X97_.here hx rfl (Jvm.hb hby at_300) rfl (l' := #[.val (.int p1), .val (.int p2), .val (.int p3), .val (.int p4), .val (.int (3 : Int32)), .val (.ref b1_), .val (.ref b72_), .val (.int vq), .val (.ref b_90_), .val (.int (1 : Int32)), .val (.int (x2 &&& (255 : Int32)))]) rfl ?_
      show Steps pP.tables eE below (T97_.setTop (mkF mM 302 #[.val (.int p1), .val (.int p2), .val (.int p3), .val (.int p4), .val (.int (3 : Int32)), .val (.ref b1_), .val (.ref b72_), .val (.int vq), .val (.ref b_90_), .val (.int (1 : Int32)), .val (.int (x2 &&& (255 : Int32)))] [])) tT
      refine XS.iload X97_.here hx rfl (Jvm.hb hby at_302) rfl ?_
      show Steps pP.tables eE below (T97_.setTop (mkF mM 304 #[.val (.int p1), .val (.int p2), .val (.int p3), .val (.int p4), .val (.int (3 : Int32)), .val (.ref b1_), .val (.ref b72_), .val (.int vq), .val (.ref b_90_), .val (.int (1 : Int32)), .val (.int (x2 &&& (255 : Int32)))] [(.int (1 : Int32))])) tT
      exact kK
    obtain ⟨fs, hr, hrun, hended, hW, hsame⟩ := X97_.leave (v := some (.int (1 : Int32))) (fun h => by rw [Bd.returns] at h; cases h)
    refine ⟨_, _, ?_, hrun, hended, _, _, rfl, ?_, ⟨_, rfl⟩, hW, hsame.mono (by decide) (by decide)⟩
    · show Steps pP.tables eE below (T97_.setTop (mkF mM 304 #[.val (.int p1), .val (.int p2), .val (.int p3), .val (.int p4), .val (.int (3 : Int32)), .val (.ref b1_), .val (.ref b72_), .val (.int vq), .val (.ref b_90_), .val (.int (1 : Int32)), .val (.int (x2 &&& (255 : Int32)))] [(.int (1 : Int32))])) _
      exact retN X97_ hx (t := .boolean) Bd.returns (by simp) (Jvm.hb hby at_304) hr
    · show Q_rm0 Z p1 p2 p3 p4 h0 n0 _ T97_.heap _
      rw [p97__0]
      exact ⟨rfl, N97_⟩
  · show own_Fin pP eE below _ (T17_.setTop (mkF mM 83 #[.val (.int p1), .val (.int p2), .val (.int p3), .val (.int p4), .val (.int (4 : Int32)), .val (.ref b1_), .unset, .unset, .unset, .unset, .unset] []))
    refine own_fin (b := T17_.setTop (mkF mM 85 #[.val (.int p1), .val (.int p2), .val (.int p3), .val (.int p4), .val (.int (4 : Int32)), .val (.ref b1_), .unset, .unset, .unset, .unset, .unset] [(.int (4 : Int32))])) (fun tT kK => ?_) ?_
    · show Steps pP.tables eE below (T17_.setTop (mkF mM 83 #[.val (.int p1), .val (.int p2), .val (.int p3), .val (.int p4), .val (.int (4 : Int32)), .val (.ref b1_), .unset, .unset, .unset, .unset, .unset] [])) tT
      refine XS.iload X17_.here hx rfl (Jvm.hb hby at_83) rfl ?_
      show Steps pP.tables eE below (T17_.setTop (mkF mM 85 #[.val (.int p1), .val (.int p2), .val (.int p3), .val (.int p4), .val (.int (4 : Int32)), .val (.ref b1_), .unset, .unset, .unset, .unset, .unset] [(.int (4 : Int32))])) tT
      exact kK
    obtain ⟨T101_, h101_, k101_, X101_, e101_, E101_, A101_, st101_⟩ := newP X17_ hx hZ (hw _ (List.mem_of_getElem? (i := 0) rfl)) e17_ (g := (mkF mM 85 #[.val (.int p1), .val (.int p2), .val (.int p3), .val (.int p4), .val (.int (4 : Int32)), .val (.ref b1_), .unset, .unset, .unset, .unset, .unset] [(.int (4 : Int32))])) rfl (Jvm.hb hby at_85) rfl (by decide) (cap := 4) (by decide) (by decide) (by decide) (by decide)
    obtain ⟨b101_, g101_⟩ : ∃ z, z = h17_.size := ⟨_, rfl⟩
    rw [← g101_] at A101_ st101_
    have sz_b101_ : h0.size ≤ b101_ := Nat.le_trans K17_.1 (Nat.le_of_eq g101_.symm)
    have ge_b101_ : n0 ≤ b101_ := Nat.le_trans Z0 sz_b101_
    have ne102_ : b1_ ≠ b101_ := Nat.ne_of_lt (Nat.lt_of_lt_of_le V17_.lt (Nat.le_of_eq g101_.symm))
    have fc103_ := V17_.ext E101_
    have K101_ := K17_.ext E101_
    have V101_ : Arv Z h101_ b101_ k101_ .byte (4 : Int32) [(.int (0 : Int32)), (.int (0 : Int32)), (.int (0 : Int32)), (.int (0 : Int32))] (.int (0 : Int32)) := (Arv.new A101_ (by decide)).pad (pad_rep [] (.int (0 : Int32)) 4)
    refine own_fin st101_ ?_
    show own_Fin pP eE below _ (T101_.setTop (mkF mM 87 #[.val (.int p1), .val (.int p2), .val (.int p3), .val (.int p4), .val (.int (4 : Int32)), .val (.ref b1_), .unset, .unset, .unset, .unset, .unset] [(.ref b101_)]))
    refine own_fin (b := T101_.setTop (mkF mM 100 #[.val (.int p1), .val (.int p2), .val (.int p3), .val (.int p4), .val (.int (4 : Int32)), .val (.ref b1_), .val (.ref b101_), .unset, .unset, .unset, .unset] [(.int (0 : Int32)), (.ref b1_), (.int (0 : Int32)), (.ref b101_)])) (fun tT kK => ?_) ?_
    · show Steps pP.tables eE below (T101_.setTop (mkF mM 87 #[.val (.int p1), .val (.int p2), .val (.int p3), .val (.int p4), .val (.int (4 : Int32)), .val (.ref b1_), .unset, .unset, .unset, .unset, .unset] [(.ref b101_)])) tT
      refine XS.astore X101_.here hx rfl (Jvm.hb hby at_87) rfl rfl (l' := #[.val (.int p1), .val (.int p2), .val (.int p3), .val (.int p4), .val (.int (4 : Int32)), .val (.ref b1_), .val (.ref b101_), .unset, .unset, .unset, .unset]) rfl ?_
      show Steps pP.tables eE below (T101_.setTop (mkF mM 89 #[.val (.int p1), .val (.int p2), .val (.int p3), .val (.int p4), .val (.int (4 : Int32)), .val (.ref b1_), .val (.ref b101_), .unset, .unset, .unset, .unset] [])) tT
      refine XS.iload X101_.here hx rfl (Jvm.hb hby at_89) rfl ?_
      show Steps pP.tables eE below (T101_.setTop (mkF mM 91 #[.val (.int p1), .val (.int p2), .val (.int p3), .val (.int p4), .val (.int (4 : Int32)), .val (.ref b1_), .val (.ref b101_), .unset, .unset, .unset, .unset] [(.int (4 : Int32))])) tT
      refine XS.ifNo X101_.here hx rfl (Jvm.hb hby at_91) rfl ((if0 _ _).trans (tlt ((by decide) : (0 : Int32) < (4 : Int32))).2.2.2) ?_
      show Steps pP.tables eE below (T101_.setTop (mkF mM 94 #[.val (.int p1), .val (.int p2), .val (.int p3), .val (.int p4), .val (.int (4 : Int32)), .val (.ref b1_), .val (.ref b101_), .unset, .unset, .unset, .unset] [])) tT
      refine XS.aload X101_.here hx rfl (Jvm.hb hby at_94) rfl rfl ?_
      show Steps pP.tables eE below (T101_.setTop (mkF mM 96 #[.val (.int p1), .val (.int p2), .val (.int p3), .val (.int p4), .val (.int (4 : Int32)), .val (.ref b1_), .val (.ref b101_), .unset, .unset, .unset, .unset] [(.ref b101_)])) tT
      refine XS.iconst X101_.here hx rfl (Jvm.hb hby at_96) ?_
      show Steps pP.tables eE below (T101_.setTop (mkF mM 97 #[.val (.int p1), .val (.int p2), .val (.int p3), .val (.int p4), .val (.int (4 : Int32)), .val (.ref b1_), .val (.ref b101_), .unset, .unset, .unset, .unset] [(.int (0 : Int32)), (.ref b101_)])) tT
      refine XS.aload X101_.here hx rfl (Jvm.hb hby at_97) rfl rfl ?_
      show Steps pP.tables eE below (T101_.setTop (mkF mM 99 #[.val (.int p1), .val (.int p2), .val (.int p3), .val (.int p4), .val (.int (4 : Int32)), .val (.ref b1_), .val (.ref b101_), .unset, .unset, .unset, .unset] [(.ref b1_), (.int (0 : Int32)), (.ref b101_)])) tT
      refine XS.iconst X101_.here hx rfl (Jvm.hb hby at_99) ?_
      show Steps pP.tables eE below (T101_.setTop (mkF mM 100 #[.val (.int p1), .val (.int p2), .val (.int p3), .val (.int p4), .val (.int (4 : Int32)), .val (.ref b1_), .val (.ref b101_), .unset, .unset, .unset, .unset] [(.int (0 : Int32)), (.ref b1_), (.int (0 : Int32)), (.ref b101_)])) tT
      exact kK
    obtain ⟨cl104_, Ar104_, qk104_, Sz104_, Nn104_, Hh104_, Gg104_⟩ := id fc103_
    have hin105_ : ¬ ((0 : Int32) < 0 ∨ cl104_.slots.size ≤ ((0 : Int32)).toNatClampNeg) := inb_of Sz104_ ⟨by decide, by decide⟩
    have hat105_ : cl104_.slots[((0 : Int32)).toNatClampNeg]? = some (.int x0) := Hh104_.at hin105_ rfl
    refine own_fin (b := T101_.setTop (mkF mM 101 #[.val (.int p1), .val (.int p2), .val (.int p3), .val (.int p4), .val (.int (4 : Int32)), .val (.ref b1_), .val (.ref b101_), .unset, .unset, .unset, .unset] [(.int x0), (.int (0 : Int32)), (.ref b101_)])) (fun tT kK => ?_) ?_
    · show Steps pP.tables eE below (T101_.setTop (mkF mM 100 #[.val (.int p1), .val (.int p2), .val (.int p3), .val (.int p4), .val (.int (4 : Int32)), .val (.ref b1_), .val (.ref b101_), .unset, .unset, .unset, .unset] [(.int (0 : Int32)), (.ref b1_), (.int (0 : Int32)), (.ref b101_)])) tT
      refine X101_.baloadBytes hx (j := (0 : Int32)) (v := (.int x0)) (own_rw e101_ Ar104_.1) (State.isArrayOf_alike hZ.alike Ar104_.2.1) Ar104_.2.2 hin105_ hat105_ (g := (mkF mM 100 #[.val (.int p1), .val (.int p2), .val (.int p3), .val (.int p4), .val (.int (4 : Int32)), .val (.ref b1_), .val (.ref b101_), .unset, .unset, .unset, .unset] [(.int (0 : Int32)), (.ref b1_), (.int (0 : Int32)), (.ref b101_)])) rfl rfl (Jvm.hb hby at_100) _ ?_
      show Steps pP.tables eE below (T101_.setTop (mkF mM 101 #[.val (.int p1), .val (.int p2), .val (.int p3), .val (.int p4), .val (.int (4 : Int32)), .val (.ref b1_), .val (.ref b101_), .unset, .unset, .unset, .unset] [(.int x0), (.int (0 : Int32)), (.ref b101_)])) tT
      exact kK
    obtain ⟨cl106_, Ar106_, qk106_, Sz106_, Nn106_, Hh106_, Gg106_⟩ := id V101_
    have hin107_ : ¬ ((0 : Int32) < 0 ∨ cl106_.slots.size ≤ ((0 : Int32)).toNatClampNeg) := inb_of Sz106_ ⟨by decide, by decide⟩
    obtain ⟨T107_, h107_, X107_, e107_, W107_, st107_⟩ := stB X101_ hx hZ e101_ Ar106_ (j := (0 : Int32)) hin107_ (g := (mkF mM 101 #[.val (.int p1), .val (.int p2), .val (.int p3), .val (.int p4), .val (.int (4 : Int32)), .val (.ref b1_), .val (.ref b101_), .unset, .unset, .unset, .unset] [(.int x0), (.int (0 : Int32)), (.ref b101_)])) rfl rfl (Jvm.hb hby at_101)
    have V107_ : Arv Z h107_ b101_ k101_ .byte (4 : Int32) [(.int (nar .byte x0)), (.int (0 : Int32)), (.int (0 : Int32)), (.int (0 : Int32))] (.int (0 : Int32)) := Arv.set Ar106_ qk106_ Sz106_ Nn106_ Hh106_ Gg106_ (fits_nar_byte _) W107_ 0 rfl (Nat.le_of_ble_eq_true rfl)
    have fc108_ := fc103_.other W107_ ne102_
    have K107_ := K101_.wr W107_ (Or.inr sz_b101_)
    have N107_ := Fr.snoc X107_ N17_ ge_b101_
    refine own_fin st107_ ?_
    show own_Fin pP eE below _ (T107_.setTop (mkF mM 102 #[.val (.int p1), .val (.int p2), .val (.int p3), .val (.int p4), .val (.int (4 : Int32)), .val (.ref b1_), .val (.ref b101_), .unset, .unset, .unset, .unset] []))
    refine own_fin (b := T107_.setTop (mkF mM 114 #[.val (.int p1), .val (.int p2), .val (.int p3), .val (.int p4), .val (.int (4 : Int32)), .val (.ref b1_), .val (.ref b101_), .unset, .unset, .unset, .unset] [(.int (1 : Int32)), (.ref b1_), (.int (1 : Int32)), (.ref b101_)])) (fun tT kK => ?_) ?_
    · show Steps pP.tables eE below (T107_.setTop (mkF mM 102 #[.val (.int p1), .val (.int p2), .val (.int p3), .val (.int p4), .val (.int (4 : Int32)), .val (.ref b1_), .val (.ref b101_), .unset, .unset, .unset, .unset] [])) tT
      refine XS.iload X107_.here hx rfl (Jvm.hb hby at_102) rfl ?_
      show Steps pP.tables eE below (T107_.setTop (mkF mM 104 #[.val (.int p1), .val (.int p2), .val (.int p3), .val (.int p4), .val (.int (4 : Int32)), .val (.ref b1_), .val (.ref b101_), .unset, .unset, .unset, .unset] [(.int (4 : Int32))])) tT
      refine XS.iconst X107_.here hx rfl (Jvm.hb hby at_104) ?_
      show Steps pP.tables eE below (T107_.setTop (mkF mM 105 #[.val (.int p1), .val (.int p2), .val (.int p3), .val (.int p4), .val (.int (4 : Int32)), .val (.ref b1_), .val (.ref b101_), .unset, .unset, .unset, .unset] [(.int (1 : Int32)), (.int (4 : Int32))])) tT
      refine XS.icmpNo X107_.here hx rfl (Jvm.hb hby at_105) rfl (tlt ((by decide) : (1 : Int32) < (4 : Int32))).2.2.2 ?_
      show Steps pP.tables eE below (T107_.setTop (mkF mM 108 #[.val (.int p1), .val (.int p2), .val (.int p3), .val (.int p4), .val (.int (4 : Int32)), .val (.ref b1_), .val (.ref b101_), .unset, .unset, .unset, .unset] [])) tT
      refine XS.aload X107_.here hx rfl (Jvm.hb hby at_108) rfl rfl ?_
      show Steps pP.tables eE below (T107_.setTop (mkF mM 110 #[.val (.int p1), .val (.int p2), .val (.int p3), .val (.int p4), .val (.int (4 : Int32)), .val (.ref b1_), .val (.ref b101_), .unset, .unset, .unset, .unset] [(.ref b101_)])) tT
      refine XS.iconst X107_.here hx rfl (Jvm.hb hby at_110) ?_
      show Steps pP.tables eE below (T107_.setTop (mkF mM 111 #[.val (.int p1), .val (.int p2), .val (.int p3), .val (.int p4), .val (.int (4 : Int32)), .val (.ref b1_), .val (.ref b101_), .unset, .unset, .unset, .unset] [(.int (1 : Int32)), (.ref b101_)])) tT
      refine XS.aload X107_.here hx rfl (Jvm.hb hby at_111) rfl rfl ?_
      show Steps pP.tables eE below (T107_.setTop (mkF mM 113 #[.val (.int p1), .val (.int p2), .val (.int p3), .val (.int p4), .val (.int (4 : Int32)), .val (.ref b1_), .val (.ref b101_), .unset, .unset, .unset, .unset] [(.ref b1_), (.int (1 : Int32)), (.ref b101_)])) tT
      refine XS.iconst X107_.here hx rfl (Jvm.hb hby at_113) ?_
      show Steps pP.tables eE below (T107_.setTop (mkF mM 114 #[.val (.int p1), .val (.int p2), .val (.int p3), .val (.int p4), .val (.int (4 : Int32)), .val (.ref b1_), .val (.ref b101_), .unset, .unset, .unset, .unset] [(.int (1 : Int32)), (.ref b1_), (.int (1 : Int32)), (.ref b101_)])) tT
      exact kK
    obtain ⟨cl109_, Ar109_, qk109_, Sz109_, Nn109_, Hh109_, Gg109_⟩ := id fc108_
    have hin110_ : ¬ ((1 : Int32) < 0 ∨ cl109_.slots.size ≤ ((1 : Int32)).toNatClampNeg) := inb_of Sz109_ ⟨by decide, by decide⟩
    have hat110_ : cl109_.slots[((1 : Int32)).toNatClampNeg]? = some (.int x1) := Hh109_.at hin110_ rfl
    refine own_fin (b := T107_.setTop (mkF mM 115 #[.val (.int p1), .val (.int p2), .val (.int p3), .val (.int p4), .val (.int (4 : Int32)), .val (.ref b1_), .val (.ref b101_), .unset, .unset, .unset, .unset] [(.int x1), (.int (1 : Int32)), (.ref b101_)])) (fun tT kK => ?_) ?_
    · show Steps pP.tables eE below (T107_.setTop (mkF mM 114 #[.val (.int p1), .val (.int p2), .val (.int p3), .val (.int p4), .val (.int (4 : Int32)), .val (.ref b1_), .val (.ref b101_), .unset, .unset, .unset, .unset] [(.int (1 : Int32)), (.ref b1_), (.int (1 : Int32)), (.ref b101_)])) tT
      refine X107_.baloadBytes hx (j := (1 : Int32)) (v := (.int x1)) (own_rw e107_ Ar109_.1) (State.isArrayOf_alike hZ.alike Ar109_.2.1) Ar109_.2.2 hin110_ hat110_ (g := (mkF mM 114 #[.val (.int p1), .val (.int p2), .val (.int p3), .val (.int p4), .val (.int (4 : Int32)), .val (.ref b1_), .val (.ref b101_), .unset, .unset, .unset, .unset] [(.int (1 : Int32)), (.ref b1_), (.int (1 : Int32)), (.ref b101_)])) rfl rfl (Jvm.hb hby at_114) _ ?_
      show Steps pP.tables eE below (T107_.setTop (mkF mM 115 #[.val (.int p1), .val (.int p2), .val (.int p3), .val (.int p4), .val (.int (4 : Int32)), .val (.ref b1_), .val (.ref b101_), .unset, .unset, .unset, .unset] [(.int x1), (.int (1 : Int32)), (.ref b101_)])) tT
      exact kK
    obtain ⟨cl111_, Ar111_, qk111_, Sz111_, Nn111_, Hh111_, Gg111_⟩ := id V107_
    have hin112_ : ¬ ((1 : Int32) < 0 ∨ cl111_.slots.size ≤ ((1 : Int32)).toNatClampNeg) := inb_of Sz111_ ⟨by decide, by decide⟩
    obtain ⟨T112_, h112_, X112_, e112_, W112_, st112_⟩ := stB X107_ hx hZ e107_ Ar111_ (j := (1 : Int32)) hin112_ (g := (mkF mM 115 #[.val (.int p1), .val (.int p2), .val (.int p3), .val (.int p4), .val (.int (4 : Int32)), .val (.ref b1_), .val (.ref b101_), .unset, .unset, .unset, .unset] [(.int x1), (.int (1 : Int32)), (.ref b101_)])) rfl rfl (Jvm.hb hby at_115)
    have V112_ : Arv Z h112_ b101_ k101_ .byte (4 : Int32) [(.int (nar .byte x0)), (.int (nar .byte x1)), (.int (0 : Int32)), (.int (0 : Int32))] (.int (0 : Int32)) := Arv.set Ar111_ qk111_ Sz111_ Nn111_ Hh111_ Gg111_ (fits_nar_byte _) W112_ 1 rfl (Nat.le_of_ble_eq_true rfl)
    have fc113_ := fc108_.other W112_ ne102_
    have K112_ := K107_.wr W112_ (Or.inr sz_b101_)
    have N112_ := Fr.snoc X112_ N107_ ge_b101_
    refine own_fin st112_ ?_
    show own_Fin pP eE below _ (T112_.setTop (mkF mM 116 #[.val (.int p1), .val (.int p2), .val (.int p3), .val (.int p4), .val (.int (4 : Int32)), .val (.ref b1_), .val (.ref b101_), .unset, .unset, .unset, .unset] []))
    refine own_fin (b := T112_.setTop (mkF mM 128 #[.val (.int p1), .val (.int p2), .val (.int p3), .val (.int p4), .val (.int (4 : Int32)), .val (.ref b1_), .val (.ref b101_), .unset, .unset, .unset, .unset] [(.int (2 : Int32)), (.ref b1_), (.int (2 : Int32)), (.ref b101_)])) (fun tT kK => ?_) ?_
    · show Steps pP.tables eE below (T112_.setTop (mkF mM 116 #[.val (.int p1), .val (.int p2), .val (.int p3), .val (.int p4), .val (.int (4 : Int32)), .val (.ref b1_), .val (.ref b101_), .unset, .unset, .unset, .unset] [])) tT
      refine XS.iload X112_.here hx rfl (Jvm.hb hby at_116) rfl ?_
      show Steps pP.tables eE below (T112_.setTop (mkF mM 118 #[.val (.int p1), .val (.int p2), .val (.int p3), .val (.int p4), .val (.int (4 : Int32)), .val (.ref b1_), .val (.ref b101_), .unset, .unset, .unset, .unset] [(.int (4 : Int32))])) tT
      refine XS.iconst X112_.here hx rfl (Jvm.hb hby at_118) ?_
      show Steps pP.tables eE below (T112_.setTop (mkF mM 119 #[.val (.int p1), .val (.int p2), .val (.int p3), .val (.int p4), .val (.int (4 : Int32)), .val (.ref b1_), .val (.ref b101_), .unset, .unset, .unset, .unset] [(.int (2 : Int32)), (.int (4 : Int32))])) tT
      refine XS.icmpNo X112_.here hx rfl (Jvm.hb hby at_119) rfl (tlt ((by decide) : (2 : Int32) < (4 : Int32))).2.2.2 ?_
      show Steps pP.tables eE below (T112_.setTop (mkF mM 122 #[.val (.int p1), .val (.int p2), .val (.int p3), .val (.int p4), .val (.int (4 : Int32)), .val (.ref b1_), .val (.ref b101_), .unset, .unset, .unset, .unset] [])) tT
      refine XS.aload X112_.here hx rfl (Jvm.hb hby at_122) rfl rfl ?_
      show Steps pP.tables eE below (T112_.setTop (mkF mM 124 #[.val (.int p1), .val (.int p2), .val (.int p3), .val (.int p4), .val (.int (4 : Int32)), .val (.ref b1_), .val (.ref b101_), .unset, .unset, .unset, .unset] [(.ref b101_)])) tT
      refine XS.iconst X112_.here hx rfl (Jvm.hb hby at_124) ?_
      show Steps pP.tables eE below (T112_.setTop (mkF mM 125 #[.val (.int p1), .val (.int p2), .val (.int p3), .val (.int p4), .val (.int (4 : Int32)), .val (.ref b1_), .val (.ref b101_), .unset, .unset, .unset, .unset] [(.int (2 : Int32)), (.ref b101_)])) tT
      refine XS.aload X112_.here hx rfl (Jvm.hb hby at_125) rfl rfl ?_
      show Steps pP.tables eE below (T112_.setTop (mkF mM 127 #[.val (.int p1), .val (.int p2), .val (.int p3), .val (.int p4), .val (.int (4 : Int32)), .val (.ref b1_), .val (.ref b101_), .unset, .unset, .unset, .unset] [(.ref b1_), (.int (2 : Int32)), (.ref b101_)])) tT
      refine XS.iconst X112_.here hx rfl (Jvm.hb hby at_127) ?_
      show Steps pP.tables eE below (T112_.setTop (mkF mM 128 #[.val (.int p1), .val (.int p2), .val (.int p3), .val (.int p4), .val (.int (4 : Int32)), .val (.ref b1_), .val (.ref b101_), .unset, .unset, .unset, .unset] [(.int (2 : Int32)), (.ref b1_), (.int (2 : Int32)), (.ref b101_)])) tT
      exact kK
    obtain ⟨cl114_, Ar114_, qk114_, Sz114_, Nn114_, Hh114_, Gg114_⟩ := id fc113_
    have hin115_ : ¬ ((2 : Int32) < 0 ∨ cl114_.slots.size ≤ ((2 : Int32)).toNatClampNeg) := inb_of Sz114_ ⟨by decide, by decide⟩
    have hat115_ : cl114_.slots[((2 : Int32)).toNatClampNeg]? = some (.int x2) := Hh114_.at hin115_ rfl
    refine own_fin (b := T112_.setTop (mkF mM 129 #[.val (.int p1), .val (.int p2), .val (.int p3), .val (.int p4), .val (.int (4 : Int32)), .val (.ref b1_), .val (.ref b101_), .unset, .unset, .unset, .unset] [(.int x2), (.int (2 : Int32)), (.ref b101_)])) (fun tT kK => ?_) ?_
    · show Steps pP.tables eE below (T112_.setTop (mkF mM 128 #[.val (.int p1), .val (.int p2), .val (.int p3), .val (.int p4), .val (.int (4 : Int32)), .val (.ref b1_), .val (.ref b101_), .unset, .unset, .unset, .unset] [(.int (2 : Int32)), (.ref b1_), (.int (2 : Int32)), (.ref b101_)])) tT
      refine X112_.baloadBytes hx (j := (2 : Int32)) (v := (.int x2)) (own_rw e112_ Ar114_.1) (State.isArrayOf_alike hZ.alike Ar114_.2.1) Ar114_.2.2 hin115_ hat115_ (g := (mkF mM 128 #[.val (.int p1), .val (.int p2), .val (.int p3), .val (.int p4), .val (.int (4 : Int32)), .val (.ref b1_), .val (.ref b101_), .unset, .unset, .unset, .unset] [(.int (2 : Int32)), (.ref b1_), (.int (2 : Int32)), (.ref b101_)])) rfl rfl (Jvm.hb hby at_128) _ ?_
      show Steps pP.tables eE below (T112_.setTop (mkF mM 129 #[.val (.int p1), .val (.int p2), .val (.int p3), .val (.int p4), .val (.int (4 : Int32)), .val (.ref b1_), .val (.ref b101_), .unset, .unset, .unset, .unset] [(.int x2), (.int (2 : Int32)), (.ref b101_)])) tT
      exact kK
    obtain ⟨cl116_, Ar116_, qk116_, Sz116_, Nn116_, Hh116_, Gg116_⟩ := id V112_
    have hin117_ : ¬ ((2 : Int32) < 0 ∨ cl116_.slots.size ≤ ((2 : Int32)).toNatClampNeg) := inb_of Sz116_ ⟨by decide, by decide⟩
    obtain ⟨T117_, h117_, X117_, e117_, W117_, st117_⟩ := stB X112_ hx hZ e112_ Ar116_ (j := (2 : Int32)) hin117_ (g := (mkF mM 129 #[.val (.int p1), .val (.int p2), .val (.int p3), .val (.int p4), .val (.int (4 : Int32)), .val (.ref b1_), .val (.ref b101_), .unset, .unset, .unset, .unset] [(.int x2), (.int (2 : Int32)), (.ref b101_)])) rfl rfl (Jvm.hb hby at_129)
    have V117_ : Arv Z h117_ b101_ k101_ .byte (4 : Int32) [(.int (nar .byte x0)), (.int (nar .byte x1)), (.int (nar .byte x2)), (.int (0 : Int32))] (.int (0 : Int32)) := Arv.set Ar116_ qk116_ Sz116_ Nn116_ Hh116_ Gg116_ (fits_nar_byte _) W117_ 2 rfl (Nat.le_of_ble_eq_true rfl)
    have fc118_ := fc113_.other W117_ ne102_
    have K117_ := K112_.wr W117_ (Or.inr sz_b101_)
    have N117_ := Fr.snoc X117_ N112_ ge_b101_
    refine own_fin st117_ ?_
    show own_Fin pP eE below _ (T117_.setTop (mkF mM 130 #[.val (.int p1), .val (.int p2), .val (.int p3), .val (.int p4), .val (.int (4 : Int32)), .val (.ref b1_), .val (.ref b101_), .unset, .unset, .unset, .unset] []))
    refine own_fin (b := T117_.setTop (mkF mM 142 #[.val (.int p1), .val (.int p2), .val (.int p3), .val (.int p4), .val (.int (4 : Int32)), .val (.ref b1_), .val (.ref b101_), .unset, .unset, .unset, .unset] [(.int (3 : Int32)), (.ref b1_), (.int (3 : Int32)), (.ref b101_)])) (fun tT kK => ?_) ?_
    · show Steps pP.tables eE below (T117_.setTop (mkF mM 130 #[.val (.int p1), .val (.int p2), .val (.int p3), .val (.int p4), .val (.int (4 : Int32)), .val (.ref b1_), .val (.ref b101_), .unset, .unset, .unset, .unset] [])) tT
      refine XS.iload X117_.here hx rfl (Jvm.hb hby at_130) rfl ?_
      show Steps pP.tables eE below (T117_.setTop (mkF mM 132 #[.val (.int p1), .val (.int p2), .val (.int p3), .val (.int p4), .val (.int (4 : Int32)), .val (.ref b1_), .val (.ref b101_), .unset, .unset, .unset, .unset] [(.int (4 : Int32))])) tT
      refine XS.iconst X117_.here hx rfl (Jvm.hb hby at_132) ?_
      show Steps pP.tables eE below (T117_.setTop (mkF mM 133 #[.val (.int p1), .val (.int p2), .val (.int p3), .val (.int p4), .val (.int (4 : Int32)), .val (.ref b1_), .val (.ref b101_), .unset, .unset, .unset, .unset] [(.int (3 : Int32)), (.int (4 : Int32))])) tT
      refine XS.icmpNo X117_.here hx rfl (Jvm.hb hby at_133) rfl (tlt ((by decide) : (3 : Int32) < (4 : Int32))).2.2.2 ?_
      show Steps pP.tables eE below (T117_.setTop (mkF mM 136 #[.val (.int p1), .val (.int p2), .val (.int p3), .val (.int p4), .val (.int (4 : Int32)), .val (.ref b1_), .val (.ref b101_), .unset, .unset, .unset, .unset] [])) tT
      refine XS.aload X117_.here hx rfl (Jvm.hb hby at_136) rfl rfl ?_
      show Steps pP.tables eE below (T117_.setTop (mkF mM 138 #[.val (.int p1), .val (.int p2), .val (.int p3), .val (.int p4), .val (.int (4 : Int32)), .val (.ref b1_), .val (.ref b101_), .unset, .unset, .unset, .unset] [(.ref b101_)])) tT
      refine XS.iconst X117_.here hx rfl (Jvm.hb hby at_138) ?_
      show Steps pP.tables eE below (T117_.setTop (mkF mM 139 #[.val (.int p1), .val (.int p2), .val (.int p3), .val (.int p4), .val (.int (4 : Int32)), .val (.ref b1_), .val (.ref b101_), .unset, .unset, .unset, .unset] [(.int (3 : Int32)), (.ref b101_)])) tT
      refine XS.aload X117_.here hx rfl (Jvm.hb hby at_139) rfl rfl ?_
      show Steps pP.tables eE below (T117_.setTop (mkF mM 141 #[.val (.int p1), .val (.int p2), .val (.int p3), .val (.int p4), .val (.int (4 : Int32)), .val (.ref b1_), .val (.ref b101_), .unset, .unset, .unset, .unset] [(.ref b1_), (.int (3 : Int32)), (.ref b101_)])) tT
      refine XS.iconst X117_.here hx rfl (Jvm.hb hby at_141) ?_
      show Steps pP.tables eE below (T117_.setTop (mkF mM 142 #[.val (.int p1), .val (.int p2), .val (.int p3), .val (.int p4), .val (.int (4 : Int32)), .val (.ref b1_), .val (.ref b101_), .unset, .unset, .unset, .unset] [(.int (3 : Int32)), (.ref b1_), (.int (3 : Int32)), (.ref b101_)])) tT
      exact kK
    obtain ⟨cl119_, Ar119_, qk119_, Sz119_, Nn119_, Hh119_, Gg119_⟩ := id fc118_
    have hin120_ : ¬ ((3 : Int32) < 0 ∨ cl119_.slots.size ≤ ((3 : Int32)).toNatClampNeg) := inb_of Sz119_ ⟨by decide, by decide⟩
    have hat120_ : cl119_.slots[((3 : Int32)).toNatClampNeg]? = some (.int x3) := Hh119_.at hin120_ rfl
    refine own_fin (b := T117_.setTop (mkF mM 143 #[.val (.int p1), .val (.int p2), .val (.int p3), .val (.int p4), .val (.int (4 : Int32)), .val (.ref b1_), .val (.ref b101_), .unset, .unset, .unset, .unset] [(.int x3), (.int (3 : Int32)), (.ref b101_)])) (fun tT kK => ?_) ?_
    · show Steps pP.tables eE below (T117_.setTop (mkF mM 142 #[.val (.int p1), .val (.int p2), .val (.int p3), .val (.int p4), .val (.int (4 : Int32)), .val (.ref b1_), .val (.ref b101_), .unset, .unset, .unset, .unset] [(.int (3 : Int32)), (.ref b1_), (.int (3 : Int32)), (.ref b101_)])) tT
      refine X117_.baloadBytes hx (j := (3 : Int32)) (v := (.int x3)) (own_rw e117_ Ar119_.1) (State.isArrayOf_alike hZ.alike Ar119_.2.1) Ar119_.2.2 hin120_ hat120_ (g := (mkF mM 142 #[.val (.int p1), .val (.int p2), .val (.int p3), .val (.int p4), .val (.int (4 : Int32)), .val (.ref b1_), .val (.ref b101_), .unset, .unset, .unset, .unset] [(.int (3 : Int32)), (.ref b1_), (.int (3 : Int32)), (.ref b101_)])) rfl rfl (Jvm.hb hby at_142) _ ?_
      show Steps pP.tables eE below (T117_.setTop (mkF mM 143 #[.val (.int p1), .val (.int p2), .val (.int p3), .val (.int p4), .val (.int (4 : Int32)), .val (.ref b1_), .val (.ref b101_), .unset, .unset, .unset, .unset] [(.int x3), (.int (3 : Int32)), (.ref b101_)])) tT
      exact kK
    obtain ⟨cl121_, Ar121_, qk121_, Sz121_, Nn121_, Hh121_, Gg121_⟩ := id V117_
    have hin122_ : ¬ ((3 : Int32) < 0 ∨ cl121_.slots.size ≤ ((3 : Int32)).toNatClampNeg) := inb_of Sz121_ ⟨by decide, by decide⟩
    obtain ⟨T122_, h122_, X122_, e122_, W122_, st122_⟩ := stB X117_ hx hZ e117_ Ar121_ (j := (3 : Int32)) hin122_ (g := (mkF mM 143 #[.val (.int p1), .val (.int p2), .val (.int p3), .val (.int p4), .val (.int (4 : Int32)), .val (.ref b1_), .val (.ref b101_), .unset, .unset, .unset, .unset] [(.int x3), (.int (3 : Int32)), (.ref b101_)])) rfl rfl (Jvm.hb hby at_143)
    have V122_ : Arv Z h122_ b101_ k101_ .byte (4 : Int32) [(.int (nar .byte x0)), (.int (nar .byte x1)), (.int (nar .byte x2)), (.int (nar .byte x3))] (.int (0 : Int32)) := Arv.set Ar121_ qk121_ Sz121_ Nn121_ Hh121_ Gg121_ (fits_nar_byte _) W122_ 3 rfl (Nat.le_of_ble_eq_true rfl)
    have fc123_ := fc118_.other W122_ ne102_
    have K122_ := K117_.wr W122_ (Or.inr sz_b101_)
    have N122_ := Fr.snoc X122_ N117_ ge_b101_
    refine own_fin st122_ ?_
    show own_Fin pP eE below _ (T122_.setTop (mkF mM 144 #[.val (.int p1), .val (.int p2), .val (.int p3), .val (.int p4), .val (.int (4 : Int32)), .val (.ref b1_), .val (.ref b101_), .unset, .unset, .unset, .unset] []))
    refine own_fin (b := T122_.setTop (mkF mM 213 #[.val (.int p1), .val (.int p2), .val (.int p3), .val (.int p4), .val (.int (4 : Int32)), .val (.ref b1_), .val (.ref b101_), .val (.int (p4 &&& (255 : Int32))), .unset, .unset, .unset] [])) (fun tT kK => ?_) ?_
    · show Steps pP.tables eE below (T122_.setTop (mkF mM 144 #[.val (.int p1), .val (.int p2), .val (.int p3), .val (.int p4), .val (.int (4 : Int32)), .val (.ref b1_), .val (.ref b101_), .unset, .unset, .unset, .unset] [])) tT
      refine XS.iload X122_.here hx rfl (Jvm.hb hby at_144) rfl ?_
      show Steps pP.tables eE below (T122_.setTop (mkF mM 146 #[.val (.int p1), .val (.int p2), .val (.int p3), .val (.int p4), .val (.int (4 : Int32)), .val (.ref b1_), .val (.ref b101_), .unset, .unset, .unset, .unset] [(.int (4 : Int32))])) tT
      refine XS.iconst X122_.here hx rfl (Jvm.hb hby at_146) ?_
      show Steps pP.tables eE below (T122_.setTop (mkF mM 147 #[.val (.int p1), .val (.int p2), .val (.int p3), .val (.int p4), .val (.int (4 : Int32)), .val (.ref b1_), .val (.ref b101_), .unset, .unset, .unset, .unset] [(.int (4 : Int32)), (.int (4 : Int32))])) tT
      refine XS.icmpYes X122_.here hx rfl (pc0 := 147) (pc' := 158) rfl (Jvm.hb hby at_147) rfl (flt ((by decide) : ¬ ((4 : Int32) < (4 : Int32)))).2.2.2 (by decide) (by decide) ?_
      show Steps pP.tables eE below (T122_.setTop (mkF mM 158 #[.val (.int p1), .val (.int p2), .val (.int p3), .val (.int p4), .val (.int (4 : Int32)), .val (.ref b1_), .val (.ref b101_), .unset, .unset, .unset, .unset] [])) tT
      refine XS.iload X122_.here hx rfl (Jvm.hb hby at_158) rfl ?_
      show Steps pP.tables eE below (T122_.setTop (mkF mM 160 #[.val (.int p1), .val (.int p2), .val (.int p3), .val (.int p4), .val (.int (4 : Int32)), .val (.ref b1_), .val (.ref b101_), .unset, .unset, .unset, .unset] [(.int (4 : Int32))])) tT
      refine XS.iconst X122_.here hx rfl (Jvm.hb hby at_160) ?_
      show Steps pP.tables eE below (T122_.setTop (mkF mM 161 #[.val (.int p1), .val (.int p2), .val (.int p3), .val (.int p4), .val (.int (4 : Int32)), .val (.ref b1_), .val (.ref b101_), .unset, .unset, .unset, .unset] [(.int (5 : Int32)), (.int (4 : Int32))])) tT
      refine XS.icmpYes X122_.here hx rfl (pc0 := 161) (pc' := 172) rfl (Jvm.hb hby at_161) rfl (flt ((by decide) : ¬ ((5 : Int32) < (4 : Int32)))).2.2.2 (by decide) (by decide) ?_
      show Steps pP.tables eE below (T122_.setTop (mkF mM 172 #[.val (.int p1), .val (.int p2), .val (.int p3), .val (.int p4), .val (.int (4 : Int32)), .val (.ref b1_), .val (.ref b101_), .unset, .unset, .unset, .unset] [])) tT
      refine XS.iload X122_.here hx rfl (Jvm.hb hby at_172) rfl ?_
      show Steps pP.tables eE below (T122_.setTop (mkF mM 174 #[.val (.int p1), .val (.int p2), .val (.int p3), .val (.int p4), .val (.int (4 : Int32)), .val (.ref b1_), .val (.ref b101_), .unset, .unset, .unset, .unset] [(.int (4 : Int32))])) tT
      refine XS.bipush X122_.here hx rfl (Jvm.hb hby at_174) ?_
      show Steps pP.tables eE below (T122_.setTop (mkF mM 176 #[.val (.int p1), .val (.int p2), .val (.int p3), .val (.int p4), .val (.int (4 : Int32)), .val (.ref b1_), .val (.ref b101_), .unset, .unset, .unset, .unset] [(.int (6 : Int32)), (.int (4 : Int32))])) tT
      refine XS.icmpYes X122_.here hx rfl (pc0 := 176) (pc' := 189) rfl (Jvm.hb hby at_176) rfl (flt ((by decide) : ¬ ((6 : Int32) < (4 : Int32)))).2.2.2 (by decide) (by decide) ?_
      show Steps pP.tables eE below (T122_.setTop (mkF mM 189 #[.val (.int p1), .val (.int p2), .val (.int p3), .val (.int p4), .val (.int (4 : Int32)), .val (.ref b1_), .val (.ref b101_), .unset, .unset, .unset, .unset] [])) tT
      refine XS.iload X122_.here hx rfl (Jvm.hb hby at_189) rfl ?_
      show Steps pP.tables eE below (T122_.setTop (mkF mM 191 #[.val (.int p1), .val (.int p2), .val (.int p3), .val (.int p4), .val (.int (4 : Int32)), .val (.ref b1_), .val (.ref b101_), .unset, .unset, .unset, .unset] [(.int (4 : Int32))])) tT
      refine XS.bipush X122_.here hx rfl (Jvm.hb hby at_191) ?_
      show Steps pP.tables eE below (T122_.setTop (mkF mM 193 #[.val (.int p1), .val (.int p2), .val (.int p3), .val (.int p4), .val (.int (4 : Int32)), .val (.ref b1_), .val (.ref b101_), .unset, .unset, .unset, .unset] [(.int (7 : Int32)), (.int (4 : Int32))])) tT
      refine XS.icmpYes X122_.here hx rfl (pc0 := 193) (pc' := 206) rfl (Jvm.hb hby at_193) rfl (flt ((by decide) : ¬ ((7 : Int32) < (4 : Int32)))).2.2.2 (by decide) (by decide) ?_
      show Steps pP.tables eE below (T122_.setTop (mkF mM 206 #[.val (.int p1), .val (.int p2), .val (.int p3), .val (.int p4), .val (.int (4 : Int32)), .val (.ref b1_), .val (.ref b101_), .unset, .unset, .unset, .unset] [])) tT
      refine XS.iloadN X122_.here hx rfl (Jvm.hb hby at_206) rfl ?_
      show Steps pP.tables eE below (T122_.setTop (mkF mM 207 #[.val (.int p1), .val (.int p2), .val (.int p3), .val (.int p4), .val (.int (4 : Int32)), .val (.ref b1_), .val (.ref b101_), .unset, .unset, .unset, .unset] [(.int p4)])) tT
      refine XS.sipush X122_.here hx rfl (Jvm.hb hby at_207) ?_
      show Steps pP.tables eE below (T122_.setTop (mkF mM 210 #[.val (.int p1), .val (.int p2), .val (.int p3), .val (.int p4), .val (.int (4 : Int32)), .val (.ref b1_), .val (.ref b101_), .unset, .unset, .unset, .unset] [(.int (255 : Int32)), (.int p4)])) tT
      refine XS.iand X122_.here hx rfl (Jvm.hb hby at_210) rfl ?_
      show Steps pP.tables eE below (T122_.setTop (mkF mM 211 #[.val (.int p1), .val (.int p2), .val (.int p3), .val (.int p4), .val (.int (4 : Int32)), .val (.ref b1_), .val (.ref b101_), .unset, .unset, .unset, .unset] [(.int (p4 &&& (255 : Int32)))])) tT
      refine XS.istore X122_.here hx rfl (Jvm.hb hby at_211) rfl (l' := #[.val (.int p1), .val (.int p2), .val (.int p3), .val (.int p4), .val (.int (4 : Int32)), .val (.ref b1_), .val (.ref b101_), .val (.int (p4 &&& (255 : Int32))), .unset, .unset, .unset]) rfl ?_
      show Steps pP.tables eE below (T122_.setTop (mkF mM 213 #[.val (.int p1), .val (.int p2), .val (.int p3), .val (.int p4), .val (.int (4 : Int32)), .val (.ref b1_), .val (.ref b101_), .val (.int (p4 &&& (255 : Int32))), .unset, .unset, .unset] [])) tT
      exact kK
    show own_Fin pP eE below _ (T122_.setTop (mkF mM 213 #[.val (.int p1), .val (.int p2), .val (.int p3), .val (.int p4), .val (.int (4 : Int32)), .val (.ref b1_), .val (.ref b101_), .val (.int (p4 &&& (255 : Int32))), .unset, .unset, .unset] []))
    generalize hvq : (p4 &&& (255 : Int32)) = vq
    show own_Fin pP eE below _ (T122_.setTop (mkF mM 213 #[.val (.int p1), .val (.int p2), .val (.int p3), .val (.int p4), .val (.int (4 : Int32)), .val (.ref b1_), .val (.ref b101_), .val (.int vq), .unset, .unset, .unset] []))
    have hq := own_m255 p4
    rw [hvq] at hq
    have Vp : Arv Z h122_ b101_ k101_ .byte (4 : Int32) (([x0, x1, x2, x3] : List Int32).map Value.int) (.int (0 : Int32)) := by have q := V122_; rw [hy0, hy1, hy2, hy3] at q; exact q
    refine own_fin (b := T122_.setTop (mkF mM 215 #[.val (.int p1), .val (.int p2), .val (.int p3), .val (.int p4), .val (.int (4 : Int32)), .val (.ref b1_), .val (.ref b101_), .val (.int vq), .unset, .unset, .unset] [(.ref b101_)])) (fun tT kK => ?_) ?_
    · show Steps pP.tables eE below (T122_.setTop (mkF mM 213 #[.val (.int p1), .val (.int p2), .val (.int p3), .val (.int p4), .val (.int (4 : Int32)), .val (.ref b1_), .val (.ref b101_), .val (.int vq), .unset, .unset, .unset] [])) tT
      refine XS.aload X122_.here hx rfl (Jvm.hb hby at_213) rfl rfl ?_
      show Steps pP.tables eE below (T122_.setTop (mkF mM 215 #[.val (.int p1), .val (.int p2), .val (.int p3), .val (.int p4), .val (.int (4 : Int32)), .val (.ref b1_), .val (.ref b101_), .val (.int vq), .unset, .unset, .unset] [(.ref b101_)])) tT
      exact kK
    obtain ⟨_, _, ⟨T124_, L124_, k124_, n124_⟩, -, X124_, ⟨Lc124_, hQ124_, l124_, y124_, z124_⟩, st124_⟩ := Jvm.LawKit.callS X122_ hx (y := (⟨"com/example/needlework/needlework/BoyerMoore", "rightmost", "([B)[I"⟩ : MethodName)) hown (mvT hZ (hw _ (List.mem_of_getElem? (i := 1) rfl))) (mvT hZ (hw _ (List.mem_of_getElem? (i := 2) rfl))) (mvT hZ (hw _ (List.mem_of_getElem? (i := 3) rfl))) (mvT hZ (hw _ (List.mem_of_getElem? (i := 4) rfl))) (by decide) (backOf (W := 0) (rm_right lL Z a0 hw [] b101_ k101_ (4 : Int32) ([x0, x1, x2, x3] : List Int32) h122_ n0 (Nat.le_trans Z0 K122_.1) Vp) hZ (hw _ (List.mem_of_getElem? (i := 4) rfl)) (hw _ (List.mem_of_getElem? (i := 3) rfl)) (by decide) (by decide)) (g := (mkF mM 215 #[.val (.int p1), .val (.int p2), .val (.int p3), .val (.int p4), .val (.int (4 : Int32)), .val (.ref b1_), .val (.ref b101_), .val (.int vq), .unset, .unset, .unset] [(.ref b101_)])) rfl (by rw [hml]; rfl) (argsL := [(.ref b101_)]) (rest := []) (lenOf own_pd1 rfl) rfl (by show 2 * 0 + _ ≤ _; exact Nat.le_of_eq rfl) (Jvm.hb hby at_215) (fun _ _ => ⟨rfl, e122_, (by decide : 2 + 1 ≤ _), (by decide : 12 + 256 ≤ _)⟩)
    dsimp only [Pt.U, Pt.locs, Pt.cells, Pt.slots] at X124_ l124_ y124_ z124_ st124_ hQ124_
    subst l124_ y124_ z124_
    obtain ⟨b_124_, rfl, N124_q, p124__0, p124__1, p124__2⟩ := hQ124_
    have N124_ := Fr.app N122_ N124_q
    have sz_b_124_ : h0.size ≤ b_124_ := Nat.le_trans K122_.1 p124__1
    have ge_b_124_ : n0 ≤ b_124_ := Nat.le_trans Z0 sz_b_124_
    have ne125_ : b1_ ≠ b_124_ := Nat.ne_of_lt (Nat.lt_of_lt_of_le fc123_.lt p124__1)
    have ne126_ : b101_ ≠ b_124_ := Nat.ne_of_lt (Nat.lt_of_lt_of_le V122_.lt p124__1)
    have fc127_ := fc123_.keep p124__0 nin0
    have fc128_ := V122_.keep p124__0 nin0
    have K124_ := K122_.trans p124__0 all0
    refine own_fin (fun tT kK => st124_ tT kK) ?_
    show own_Fin pP eE below _ (T124_.setTop (mkF mM 218 #[.val (.int p1), .val (.int p2), .val (.int p3), .val (.int p4), .val (.int (4 : Int32)), .val (.ref b1_), .val (.ref b101_), .val (.int vq), .unset, .unset, .unset] [(.ref b_124_)]))
    refine own_fin (b := T124_.setTop (mkF mM 227 #[.val (.int p1), .val (.int p2), .val (.int p3), .val (.int p4), .val (.int (4 : Int32)), .val (.ref b1_), .val (.ref b101_), .val (.int vq), .val (.ref b_124_), .unset, .unset] [(.ref b_124_)])) (fun tT kK => ?_) ?_
    · show Steps pP.tables eE below (T124_.setTop (mkF mM 218 #[.val (.int p1), .val (.int p2), .val (.int p3), .val (.int p4), .val (.int (4 : Int32)), .val (.ref b1_), .val (.ref b101_), .val (.int vq), .unset, .unset, .unset] [(.ref b_124_)])) tT
      refine XS.astore X124_.here hx rfl (Jvm.hb hby at_218) rfl rfl (l' := #[.val (.int p1), .val (.int p2), .val (.int p3), .val (.int p4), .val (.int (4 : Int32)), .val (.ref b1_), .val (.ref b101_), .val (.int vq), .val (.ref b_124_), .unset, .unset]) rfl ?_
      show Steps pP.tables eE below (T124_.setTop (mkF mM 220 #[.val (.int p1), .val (.int p2), .val (.int p3), .val (.int p4), .val (.int (4 : Int32)), .val (.ref b1_), .val (.ref b101_), .val (.int vq), .val (.ref b_124_), .unset, .unset] [])) tT
      refine XS.aload X124_.here hx rfl (Jvm.hb hby at_220) rfl rfl ?_
      show Steps pP.tables eE below (T124_.setTop (mkF mM 222 #[.val (.int p1), .val (.int p2), .val (.int p3), .val (.int p4), .val (.int (4 : Int32)), .val (.ref b1_), .val (.ref b101_), .val (.int vq), .val (.ref b_124_), .unset, .unset] [(.ref b_124_)])) tT
      refine XS.ifnullNo X124_.here hx rfl (Jvm.hb hby at_222) rfl ?_
      show Steps pP.tables eE below (T124_.setTop (mkF mM 225 #[.val (.int p1), .val (.int p2), .val (.int p3), .val (.int p4), .val (.int (4 : Int32)), .val (.ref b1_), .val (.ref b101_), .val (.int vq), .val (.ref b_124_), .unset, .unset] [])) tT
      refine XS.aload X124_.here hx rfl (Jvm.hb hby at_225) rfl rfl ?_
      show Steps pP.tables eE below (T124_.setTop (mkF mM 227 #[.val (.int p1), .val (.int p2), .val (.int p3), .val (.int p4), .val (.int (4 : Int32)), .val (.ref b1_), .val (.ref b101_), .val (.int vq), .val (.ref b_124_), .unset, .unset] [(.ref b_124_)])) tT
      exact kK
    obtain ⟨cl129_, Ar129_, Sz129_, Nn129_, -⟩ := id p124__2
    refine own_fin (b := T124_.setTop (mkF mM 240 #[.val (.int p1), .val (.int p2), .val (.int p3), .val (.int p4), .val (.int (4 : Int32)), .val (.ref b1_), .val (.ref b101_), .val (.int vq), .val (.ref b_124_), .unset, .unset] [(.int vq), (.ref b_124_)])) (fun tT kK => ?_) ?_
    · show Steps pP.tables eE below (T124_.setTop (mkF mM 227 #[.val (.int p1), .val (.int p2), .val (.int p3), .val (.int p4), .val (.int (4 : Int32)), .val (.ref b1_), .val (.ref b101_), .val (.int vq), .val (.ref b_124_), .unset, .unset] [(.ref b_124_)])) tT
      refine X124_.arraylength hx (own_rw rfl Ar129_.1) (State.isArrayOf_alike hZ.alike Ar129_.2.1) (g := (mkF mM 227 #[.val (.int p1), .val (.int p2), .val (.int p3), .val (.int p4), .val (.int (4 : Int32)), .val (.ref b1_), .val (.ref b101_), .val (.int vq), .val (.ref b_124_), .unset, .unset] [(.ref b_124_)])) rfl rfl (Jvm.hb hby at_227) _ ?_
      rw [len_of Sz129_ Nn129_]
      show Steps pP.tables eE below (T124_.setTop (mkF mM 228 #[.val (.int p1), .val (.int p2), .val (.int p3), .val (.int p4), .val (.int (4 : Int32)), .val (.ref b1_), .val (.ref b101_), .val (.int vq), .val (.ref b_124_), .unset, .unset] [(.int (256 : Int32))])) tT
      refine XS.sipush X124_.here hx rfl (Jvm.hb hby at_228) ?_
      show Steps pP.tables eE below (T124_.setTop (mkF mM 231 #[.val (.int p1), .val (.int p2), .val (.int p3), .val (.int p4), .val (.int (4 : Int32)), .val (.ref b1_), .val (.ref b101_), .val (.int vq), .val (.ref b_124_), .unset, .unset] [(.int (256 : Int32)), (.int (256 : Int32))])) tT
      refine XS.icmpYes X124_.here hx rfl (pc0 := 231) (pc' := 236) rfl (Jvm.hb hby at_231) rfl (teq ((by decide) : (256 : Int32) = (256 : Int32))).1 (by decide) (by decide) ?_
      show Steps pP.tables eE below (T124_.setTop (mkF mM 236 #[.val (.int p1), .val (.int p2), .val (.int p3), .val (.int p4), .val (.int (4 : Int32)), .val (.ref b1_), .val (.ref b101_), .val (.int vq), .val (.ref b_124_), .unset, .unset] [])) tT
      refine XS.aload X124_.here hx rfl (Jvm.hb hby at_236) rfl rfl ?_
      show Steps pP.tables eE below (T124_.setTop (mkF mM 238 #[.val (.int p1), .val (.int p2), .val (.int p3), .val (.int p4), .val (.int (4 : Int32)), .val (.ref b1_), .val (.ref b101_), .val (.int vq), .val (.ref b_124_), .unset, .unset] [(.ref b_124_)])) tT
      refine XS.iload X124_.here hx rfl (Jvm.hb hby at_238) rfl ?_
      show Steps pP.tables eE below (T124_.setTop (mkF mM 240 #[.val (.int p1), .val (.int p2), .val (.int p3), .val (.int p4), .val (.int (4 : Int32)), .val (.ref b1_), .val (.ref b101_), .val (.int vq), .val (.ref b_124_), .unset, .unset] [(.int vq), (.ref b_124_)])) tT
      exact kK
    obtain ⟨cl130_, Ar130_, Sz130_, Nn130_, Hh130_⟩ := id p124__2
    have hin130_ : ¬ (vq < 0 ∨ cl130_.slots.size ≤ (vq).toNatClampNeg) := inb_of Sz130_ hq
    have hat130_ : cl130_.slots[(vq).toNatClampNeg]? = some (.int ((own_ft ([x0, x1, x2, x3] : List Int32) (4 : Int32).toNatClampNeg) vq)) := Hh130_ _ hin130_
    refine own_fin (b := T124_.setTop (mkF mM 247 #[.val (.int p1), .val (.int p2), .val (.int p3), .val (.int p4), .val (.int (4 : Int32)), .val (.ref b1_), .val (.ref b101_), .val (.int vq), .val (.ref b_124_), .unset, .unset] [(.int vq), (.int (4 : Int32)), (.ref b1_), (.int ((own_ft ([x0, x1, x2, x3] : List Int32) (4 : Int32).toNatClampNeg) vq))])) (fun tT kK => ?_) ?_
    · show Steps pP.tables eE below (T124_.setTop (mkF mM 240 #[.val (.int p1), .val (.int p2), .val (.int p3), .val (.int p4), .val (.int (4 : Int32)), .val (.ref b1_), .val (.ref b101_), .val (.int vq), .val (.ref b_124_), .unset, .unset] [(.int vq), (.ref b_124_)])) tT
      refine X124_.iaload hx (j := vq) (v := (.int ((own_ft ([x0, x1, x2, x3] : List Int32) (4 : Int32).toNatClampNeg) vq))) (own_rw rfl Ar130_.1) (State.isArrayOf_alike hZ.alike Ar130_.2.1) Ar130_.2.2 hin130_ hat130_ (g := (mkF mM 240 #[.val (.int p1), .val (.int p2), .val (.int p3), .val (.int p4), .val (.int (4 : Int32)), .val (.ref b1_), .val (.ref b101_), .val (.int vq), .val (.ref b_124_), .unset, .unset] [(.int vq), (.ref b_124_)])) rfl rfl (Jvm.hb hby at_240) _ ?_
      show Steps pP.tables eE below (T124_.setTop (mkF mM 241 #[.val (.int p1), .val (.int p2), .val (.int p3), .val (.int p4), .val (.int (4 : Int32)), .val (.ref b1_), .val (.ref b101_), .val (.int vq), .val (.ref b_124_), .unset, .unset] [(.int ((own_ft ([x0, x1, x2, x3] : List Int32) (4 : Int32).toNatClampNeg) vq))])) tT
      refine XS.aload X124_.here hx rfl (Jvm.hb hby at_241) rfl rfl ?_
      show Steps pP.tables eE below (T124_.setTop (mkF mM 243 #[.val (.int p1), .val (.int p2), .val (.int p3), .val (.int p4), .val (.int (4 : Int32)), .val (.ref b1_), .val (.ref b101_), .val (.int vq), .val (.ref b_124_), .unset, .unset] [(.ref b1_), (.int ((own_ft ([x0, x1, x2, x3] : List Int32) (4 : Int32).toNatClampNeg) vq))])) tT
      refine XS.iload X124_.here hx rfl (Jvm.hb hby at_243) rfl ?_
      show Steps pP.tables eE below (T124_.setTop (mkF mM 245 #[.val (.int p1), .val (.int p2), .val (.int p3), .val (.int p4), .val (.int (4 : Int32)), .val (.ref b1_), .val (.ref b101_), .val (.int vq), .val (.ref b_124_), .unset, .unset] [(.int (4 : Int32)), (.ref b1_), (.int ((own_ft ([x0, x1, x2, x3] : List Int32) (4 : Int32).toNatClampNeg) vq))])) tT
      refine XS.iload X124_.here hx rfl (Jvm.hb hby at_245) rfl ?_
      show Steps pP.tables eE below (T124_.setTop (mkF mM 247 #[.val (.int p1), .val (.int p2), .val (.int p3), .val (.int p4), .val (.int (4 : Int32)), .val (.ref b1_), .val (.ref b101_), .val (.int vq), .val (.ref b_124_), .unset, .unset] [(.int vq), (.int (4 : Int32)), (.ref b1_), (.int ((own_ft ([x0, x1, x2, x3] : List Int32) (4 : Int32).toNatClampNeg) vq))])) tT
      exact kK
    obtain ⟨_, _, ⟨T131_, L131_, k131_, n131_⟩, -, X131_, ⟨Lc131_, hQ131_, l131_, y131_, z131_⟩, st131_⟩ := Jvm.LawKit.callS X124_ hx (y := (⟨"com/example/needlework/needlework/BoyerMooreRightmostPinLaw", "ref", "([BII)I"⟩ : MethodName)) hown (mvT hZ (hw _ (List.mem_of_getElem? (i := 10) rfl))) (mvT hZ (hw _ (List.mem_of_getElem? (i := 11) rfl))) (mvT hZ (hw _ (List.mem_of_getElem? (i := 12) rfl))) (mvT hZ (hw _ (List.mem_of_getElem? (i := 13) rfl))) (by decide) (backOf (W := 1) (rm_ref lL Z a0 hw [] b1_ k1_ (4 : Int32) vq x0 x1 x2 x3 x4 x5 x6 x7 T124_.heap n0 (Nat.le_trans Z0 K124_.1) fc127_) hZ (hw _ (List.mem_of_getElem? (i := 13) rfl)) (hw _ (List.mem_of_getElem? (i := 12) rfl)) (by decide) (by decide)) (g := (mkF mM 247 #[.val (.int p1), .val (.int p2), .val (.int p3), .val (.int p4), .val (.int (4 : Int32)), .val (.ref b1_), .val (.ref b101_), .val (.int vq), .val (.ref b_124_), .unset, .unset] [(.int vq), (.int (4 : Int32)), (.ref b1_), (.int ((own_ft ([x0, x1, x2, x3] : List Int32) (4 : Int32).toNatClampNeg) vq))])) rfl (by rw [hml]; rfl) (argsL := [(.ref b1_), (.int (4 : Int32)), (.int vq)]) (rest := [(.int ((own_ft ([x0, x1, x2, x3] : List Int32) (4 : Int32).toNatClampNeg) vq))]) (lenOf own_pd2 rfl) rfl (by show 2 * 0 + _ ≤ _; exact Nat.le_of_eq rfl) (Jvm.hb hby at_247) (fun _ _ => ⟨rfl, rfl, (by decide : 3 + 0 ≤ _), (by decide : 268 + 0 ≤ _)⟩)
    dsimp only [Pt.U, Pt.locs, Pt.cells, Pt.slots] at X131_ l131_ y131_ z131_ st131_ hQ131_
    subst l131_ y131_ z131_
    obtain ⟨rfl, N131_q, p131__0⟩ := hQ131_
    have N131_ := Fr.app N124_ N131_q
    refine own_fin (fun tT kK => st131_ tT kK) ?_
    show own_Fin pP eE below _ (T131_.setTop (mkF mM 250 #[.val (.int p1), .val (.int p2), .val (.int p3), .val (.int p4), .val (.int (4 : Int32)), .val (.ref b1_), .val (.ref b101_), .val (.int vq), .val (.ref b_124_), .unset, .unset] [(.int (own_ref (4 : Int32) vq x0 x1 x2 x3 x4 x5 x6 x7)), (.int ((own_ft ([x0, x1, x2, x3] : List Int32) (4 : Int32).toNatClampNeg) vq))]))
    refine own_fin (b := T131_.setTop (mkF mM 271 #[.val (.int p1), .val (.int p2), .val (.int p3), .val (.int p4), .val (.int (4 : Int32)), .val (.ref b1_), .val (.ref b101_), .val (.int vq), .val (.ref b_124_), .val (.int (1 : Int32)), .unset] [(.int (3 : Int32)), (.ref b1_)])) (fun tT kK => ?_) ?_
    · show Steps pP.tables eE below (T131_.setTop (mkF mM 250 #[.val (.int p1), .val (.int p2), .val (.int p3), .val (.int p4), .val (.int (4 : Int32)), .val (.ref b1_), .val (.ref b101_), .val (.int vq), .val (.ref b_124_), .unset, .unset] [(.int (own_ref (4 : Int32) vq x0 x1 x2 x3 x4 x5 x6 x7)), (.int ((own_ft ([x0, x1, x2, x3] : List Int32) (4 : Int32).toNatClampNeg) vq))])) tT
      refine XS.icmpNo X131_.here hx rfl (Jvm.hb hby at_250) rfl (teq (own_e4 vq x0 x1 x2 x3 x4 x5 x6 x7 : ((own_ft ([x0, x1, x2, x3] : List Int32) (4 : Int32).toNatClampNeg) vq) = (own_ref (4 : Int32) vq x0 x1 x2 x3 x4 x5 x6 x7))).2 ?_
      show Steps pP.tables eE below (T131_.setTop (mkF mM 253 #[.val (.int p1), .val (.int p2), .val (.int p3), .val (.int p4), .val (.int (4 : Int32)), .val (.ref b1_), .val (.ref b101_), .val (.int vq), .val (.ref b_124_), .unset, .unset] [])) tT
      refine XS.iconst X131_.here hx rfl (Jvm.hb hby at_253) ?_
      show Steps pP.tables eE below (T131_.setTop (mkF mM 254 #[.val (.int p1), .val (.int p2), .val (.int p3), .val (.int p4), .val (.int (4 : Int32)), .val (.ref b1_), .val (.ref b101_), .val (.int vq), .val (.ref b_124_), .unset, .unset] [(.int (1 : Int32))])) tT
      refine XS.goto X131_.here hx rfl (pc0 := 254) (pc' := 258) rfl (Jvm.hb hby at_254) (by decide) (by decide) ?_
      show Steps pP.tables eE below (T131_.setTop (mkF mM 258 #[.val (.int p1), .val (.int p2), .val (.int p3), .val (.int p4), .val (.int (4 : Int32)), .val (.ref b1_), .val (.ref b101_), .val (.int vq), .val (.ref b_124_), .unset, .unset] [(.int (1 : Int32))])) tT
      refine XS.istore X131_.here hx rfl (Jvm.hb hby at_258) rfl (l' := #[.val (.int p1), .val (.int p2), .val (.int p3), .val (.int p4), .val (.int (4 : Int32)), .val (.ref b1_), .val (.ref b101_), .val (.int vq), .val (.ref b_124_), .val (.int (1 : Int32)), .unset]) rfl ?_
      show Steps pP.tables eE below (T131_.setTop (mkF mM 260 #[.val (.int p1), .val (.int p2), .val (.int p3), .val (.int p4), .val (.int (4 : Int32)), .val (.ref b1_), .val (.ref b101_), .val (.int vq), .val (.ref b_124_), .val (.int (1 : Int32)), .unset] [])) tT
      refine XS.iload X131_.here hx rfl (Jvm.hb hby at_260) rfl ?_
      show Steps pP.tables eE below (T131_.setTop (mkF mM 262 #[.val (.int p1), .val (.int p2), .val (.int p3), .val (.int p4), .val (.int (4 : Int32)), .val (.ref b1_), .val (.ref b101_), .val (.int vq), .val (.ref b_124_), .val (.int (1 : Int32)), .unset] [(.int (4 : Int32))])) tT
      refine XS.ifNo X131_.here hx rfl (Jvm.hb hby at_262) rfl ((if0 _ _).trans (tlt ((by decide) : (0 : Int32) < (4 : Int32))).2.2.2) ?_
      show Steps pP.tables eE below (T131_.setTop (mkF mM 265 #[.val (.int p1), .val (.int p2), .val (.int p3), .val (.int p4), .val (.int (4 : Int32)), .val (.ref b1_), .val (.ref b101_), .val (.int vq), .val (.ref b_124_), .val (.int (1 : Int32)), .unset] [])) tT
      refine XS.aload X131_.here hx rfl (Jvm.hb hby at_265) rfl rfl ?_
      show Steps pP.tables eE below (T131_.setTop (mkF mM 267 #[.val (.int p1), .val (.int p2), .val (.int p3), .val (.int p4), .val (.int (4 : Int32)), .val (.ref b1_), .val (.ref b101_), .val (.int vq), .val (.ref b_124_), .val (.int (1 : Int32)), .unset] [(.ref b1_)])) tT
      refine XS.iload X131_.here hx rfl (Jvm.hb hby at_267) rfl ?_
      show Steps pP.tables eE below (T131_.setTop (mkF mM 269 #[.val (.int p1), .val (.int p2), .val (.int p3), .val (.int p4), .val (.int (4 : Int32)), .val (.ref b1_), .val (.ref b101_), .val (.int vq), .val (.ref b_124_), .val (.int (1 : Int32)), .unset] [(.int (4 : Int32)), (.ref b1_)])) tT
      refine XS.iconst X131_.here hx rfl (Jvm.hb hby at_269) ?_
      show Steps pP.tables eE below (T131_.setTop (mkF mM 270 #[.val (.int p1), .val (.int p2), .val (.int p3), .val (.int p4), .val (.int (4 : Int32)), .val (.ref b1_), .val (.ref b101_), .val (.int vq), .val (.ref b_124_), .val (.int (1 : Int32)), .unset] [(.int (1 : Int32)), (.int (4 : Int32)), (.ref b1_)])) tT
      refine XS.isub X131_.here hx rfl (Jvm.hb hby at_270) rfl ?_
      show Steps pP.tables eE below (T131_.setTop (mkF mM 271 #[.val (.int p1), .val (.int p2), .val (.int p3), .val (.int p4), .val (.int (4 : Int32)), .val (.ref b1_), .val (.ref b101_), .val (.int vq), .val (.ref b_124_), .val (.int (1 : Int32)), .unset] [(.int (3 : Int32)), (.ref b1_)])) tT
      exact kK
    obtain ⟨cl132_, Ar132_, qk132_, Sz132_, Nn132_, Hh132_, Gg132_⟩ := id fc127_
    have hin133_ : ¬ ((3 : Int32) < 0 ∨ cl132_.slots.size ≤ ((3 : Int32)).toNatClampNeg) := inb_of Sz132_ ⟨by decide, by decide⟩
    have hat133_ : cl132_.slots[((3 : Int32)).toNatClampNeg]? = some (.int x3) := Hh132_.at hin133_ rfl
    refine own_fin (b := T131_.setTop (mkF mM 287 #[.val (.int p1), .val (.int p2), .val (.int p3), .val (.int p4), .val (.int (4 : Int32)), .val (.ref b1_), .val (.ref b101_), .val (.int vq), .val (.ref b_124_), .val (.int (1 : Int32)), .val (.int (x3 &&& (255 : Int32)))] [(.int (x3 &&& (255 : Int32))), (.ref b_124_)])) (fun tT kK => ?_) ?_
    · show Steps pP.tables eE below (T131_.setTop (mkF mM 271 #[.val (.int p1), .val (.int p2), .val (.int p3), .val (.int p4), .val (.int (4 : Int32)), .val (.ref b1_), .val (.ref b101_), .val (.int vq), .val (.ref b_124_), .val (.int (1 : Int32)), .unset] [(.int (3 : Int32)), (.ref b1_)])) tT
      refine X131_.baloadBytes hx (j := (3 : Int32)) (v := (.int x3)) (own_rw p131__0 Ar132_.1) (State.isArrayOf_alike hZ.alike Ar132_.2.1) Ar132_.2.2 hin133_ hat133_ (g := (mkF mM 271 #[.val (.int p1), .val (.int p2), .val (.int p3), .val (.int p4), .val (.int (4 : Int32)), .val (.ref b1_), .val (.ref b101_), .val (.int vq), .val (.ref b_124_), .val (.int (1 : Int32)), .unset] [(.int (3 : Int32)), (.ref b1_)])) rfl rfl (Jvm.hb hby at_271) _ ?_
      show Steps pP.tables eE below (T131_.setTop (mkF mM 272 #[.val (.int p1), .val (.int p2), .val (.int p3), .val (.int p4), .val (.int (4 : Int32)), .val (.ref b1_), .val (.ref b101_), .val (.int vq), .val (.ref b_124_), .val (.int (1 : Int32)), .unset] [(.int x3)])) tT
      refine XS.sipush X131_.here hx rfl (Jvm.hb hby at_272) ?_
      show Steps pP.tables eE below (T131_.setTop (mkF mM 275 #[.val (.int p1), .val (.int p2), .val (.int p3), .val (.int p4), .val (.int (4 : Int32)), .val (.ref b1_), .val (.ref b101_), .val (.int vq), .val (.ref b_124_), .val (.int (1 : Int32)), .unset] [(.int (255 : Int32)), (.int x3)])) tT
      refine XS.iand X131_.here hx rfl (Jvm.hb hby at_275) rfl ?_
      show Steps pP.tables eE below (T131_.setTop (mkF mM 276 #[.val (.int p1), .val (.int p2), .val (.int p3), .val (.int p4), .val (.int (4 : Int32)), .val (.ref b1_), .val (.ref b101_), .val (.int vq), .val (.ref b_124_), .val (.int (1 : Int32)), .unset] [(.int (x3 &&& (255 : Int32)))])) tT
      refine XS.istore X131_.here hx rfl (Jvm.hb hby at_276) rfl (l' := #[.val (.int p1), .val (.int p2), .val (.int p3), .val (.int p4), .val (.int (4 : Int32)), .val (.ref b1_), .val (.ref b101_), .val (.int vq), .val (.ref b_124_), .val (.int (1 : Int32)), .val (.int (x3 &&& (255 : Int32)))]) rfl ?_
      show Steps pP.tables eE below (T131_.setTop (mkF mM 278 #[.val (.int p1), .val (.int p2), .val (.int p3), .val (.int p4), .val (.int (4 : Int32)), .val (.ref b1_), .val (.ref b101_), .val (.int vq), .val (.ref b_124_), .val (.int (1 : Int32)), .val (.int (x3 &&& (255 : Int32)))] [])) tT
      refine XS.iload X131_.here hx rfl (Jvm.hb hby at_278) rfl ?_
      show Steps pP.tables eE below (T131_.setTop (mkF mM 280 #[.val (.int p1), .val (.int p2), .val (.int p3), .val (.int p4), .val (.int (4 : Int32)), .val (.ref b1_), .val (.ref b101_), .val (.int vq), .val (.ref b_124_), .val (.int (1 : Int32)), .val (.int (x3 &&& (255 : Int32)))] [(.int (1 : Int32))])) tT
      refine XS.ifNo X131_.here hx rfl (Jvm.hb hby at_280) rfl ((if0 _ _).trans (feq ((by decide) : ¬ ((1 : Int32) = (0 : Int32)))).1) ?_
      show Steps pP.tables eE below (T131_.setTop (mkF mM 283 #[.val (.int p1), .val (.int p2), .val (.int p3), .val (.int p4), .val (.int (4 : Int32)), .val (.ref b1_), .val (.ref b101_), .val (.int vq), .val (.ref b_124_), .val (.int (1 : Int32)), .val (.int (x3 &&& (255 : Int32)))] [])) tT
      refine XS.aload X131_.here hx rfl (Jvm.hb hby at_283) rfl rfl ?_
      show Steps pP.tables eE below (T131_.setTop (mkF mM 285 #[.val (.int p1), .val (.int p2), .val (.int p3), .val (.int p4), .val (.int (4 : Int32)), .val (.ref b1_), .val (.ref b101_), .val (.int vq), .val (.ref b_124_), .val (.int (1 : Int32)), .val (.int (x3 &&& (255 : Int32)))] [(.ref b_124_)])) tT
      refine XS.iload X131_.here hx rfl (Jvm.hb hby at_285) rfl ?_
      show Steps pP.tables eE below (T131_.setTop (mkF mM 287 #[.val (.int p1), .val (.int p2), .val (.int p3), .val (.int p4), .val (.int (4 : Int32)), .val (.ref b1_), .val (.ref b101_), .val (.int vq), .val (.ref b_124_), .val (.int (1 : Int32)), .val (.int (x3 &&& (255 : Int32)))] [(.int (x3 &&& (255 : Int32))), (.ref b_124_)])) tT
      exact kK
    obtain ⟨cl134_, Ar134_, Sz134_, Nn134_, Hh134_⟩ := id p124__2
    have hin134_ : ¬ ((x3 &&& (255 : Int32)) < 0 ∨ cl134_.slots.size ≤ ((x3 &&& (255 : Int32))).toNatClampNeg) := inb_of Sz134_ (own_m255 x3)
    have hat134_ : cl134_.slots[((x3 &&& (255 : Int32))).toNatClampNeg]? = some (.int ((own_ft ([x0, x1, x2, x3] : List Int32) (4 : Int32).toNatClampNeg) (x3 &&& (255 : Int32)))) := Hh134_ _ hin134_
    refine own_fin (b := T131_.setTop (mkF mM 304 #[.val (.int p1), .val (.int p2), .val (.int p3), .val (.int p4), .val (.int (4 : Int32)), .val (.ref b1_), .val (.ref b101_), .val (.int vq), .val (.ref b_124_), .val (.int (1 : Int32)), .val (.int (x3 &&& (255 : Int32)))] [(.int (1 : Int32))])) (fun tT kK => ?_) ?_
    · show Steps pP.tables eE below (T131_.setTop (mkF mM 287 #[.val (.int p1), .val (.int p2), .val (.int p3), .val (.int p4), .val (.int (4 : Int32)), .val (.ref b1_), .val (.ref b101_), .val (.int vq), .val (.ref b_124_), .val (.int (1 : Int32)), .val (.int (x3 &&& (255 : Int32)))] [(.int (x3 &&& (255 : Int32))), (.ref b_124_)])) tT
      refine X131_.iaload hx (j := (x3 &&& (255 : Int32))) (v := (.int ((own_ft ([x0, x1, x2, x3] : List Int32) (4 : Int32).toNatClampNeg) (x3 &&& (255 : Int32))))) (own_rw p131__0 Ar134_.1) (State.isArrayOf_alike hZ.alike Ar134_.2.1) Ar134_.2.2 hin134_ hat134_ (g := (mkF mM 287 #[.val (.int p1), .val (.int p2), .val (.int p3), .val (.int p4), .val (.int (4 : Int32)), .val (.ref b1_), .val (.ref b101_), .val (.int vq), .val (.ref b_124_), .val (.int (1 : Int32)), .val (.int (x3 &&& (255 : Int32)))] [(.int (x3 &&& (255 : Int32))), (.ref b_124_)])) rfl rfl (Jvm.hb hby at_287) _ ?_
      show Steps pP.tables eE below (T131_.setTop (mkF mM 288 #[.val (.int p1), .val (.int p2), .val (.int p3), .val (.int p4), .val (.int (4 : Int32)), .val (.ref b1_), .val (.ref b101_), .val (.int vq), .val (.ref b_124_), .val (.int (1 : Int32)), .val (.int (x3 &&& (255 : Int32)))] [(.int ((own_ft ([x0, x1, x2, x3] : List Int32) (4 : Int32).toNatClampNeg) (x3 &&& (255 : Int32))))])) tT
      refine XS.iload X131_.here hx rfl (Jvm.hb hby at_288) rfl ?_
      show Steps pP.tables eE below (T131_.setTop (mkF mM 290 #[.val (.int p1), .val (.int p2), .val (.int p3), .val (.int p4), .val (.int (4 : Int32)), .val (.ref b1_), .val (.ref b101_), .val (.int vq), .val (.ref b_124_), .val (.int (1 : Int32)), .val (.int (x3 &&& (255 : Int32)))] [(.int (4 : Int32)), (.int ((own_ft ([x0, x1, x2, x3] : List Int32) (4 : Int32).toNatClampNeg) (x3 &&& (255 : Int32))))])) tT
      refine XS.iconst X131_.here hx rfl (Jvm.hb hby at_290) ?_
      show Steps pP.tables eE below (T131_.setTop (mkF mM 291 #[.val (.int p1), .val (.int p2), .val (.int p3), .val (.int p4), .val (.int (4 : Int32)), .val (.ref b1_), .val (.ref b101_), .val (.int vq), .val (.ref b_124_), .val (.int (1 : Int32)), .val (.int (x3 &&& (255 : Int32)))] [(.int (1 : Int32)), (.int (4 : Int32)), (.int ((own_ft ([x0, x1, x2, x3] : List Int32) (4 : Int32).toNatClampNeg) (x3 &&& (255 : Int32))))])) tT
      refine XS.isub X131_.here hx rfl (Jvm.hb hby at_291) rfl ?_
      show Steps pP.tables eE below (T131_.setTop (mkF mM 292 #[.val (.int p1), .val (.int p2), .val (.int p3), .val (.int p4), .val (.int (4 : Int32)), .val (.ref b1_), .val (.ref b101_), .val (.int vq), .val (.ref b_124_), .val (.int (1 : Int32)), .val (.int (x3 &&& (255 : Int32)))] [(.int (3 : Int32)), (.int ((own_ft ([x0, x1, x2, x3] : List Int32) (4 : Int32).toNatClampNeg) (x3 &&& (255 : Int32))))])) tT
      refine XS.icmpNo X131_.here hx rfl (Jvm.hb hby at_292) rfl (teq (own_last ([x0, x1, x2, x3] : List Int32) 3 : ((own_ft ([x0, x1, x2, x3] : List Int32) (4 : Int32).toNatClampNeg) (x3 &&& (255 : Int32))) = (3 : Int32))).2 ?_
      show Steps pP.tables eE below (T131_.setTop (mkF mM 295 #[.val (.int p1), .val (.int p2), .val (.int p3), .val (.int p4), .val (.int (4 : Int32)), .val (.ref b1_), .val (.ref b101_), .val (.int vq), .val (.ref b_124_), .val (.int (1 : Int32)), .val (.int (x3 &&& (255 : Int32)))] [])) tT
      refine XS.iconst X131_.here hx rfl (Jvm.hb hby at_295) ?_
      show Steps pP.tables eE below (T131_.setTop (mkF mM 296 #[.val (.int p1), .val (.int p2), .val (.int p3), .val (.int p4), .val (.int (4 : Int32)), .val (.ref b1_), .val (.ref b101_), .val (.int vq), .val (.ref b_124_), .val (.int (1 : Int32)), .val (.int (x3 &&& (255 : Int32)))] [(.int (1 : Int32))])) tT
      refine XS.goto X131_.here hx rfl (pc0 := 296) (pc' := 300) rfl (Jvm.hb hby at_296) (by decide) (by decide) ?_
      show Steps pP.tables eE below (T131_.setTop (mkF mM 300 #[.val (.int p1), .val (.int p2), .val (.int p3), .val (.int p4), .val (.int (4 : Int32)), .val (.ref b1_), .val (.ref b101_), .val (.int vq), .val (.ref b_124_), .val (.int (1 : Int32)), .val (.int (x3 &&& (255 : Int32)))] [(.int (1 : Int32))])) tT
      refine XS.istore X131_.here hx rfl (Jvm.hb hby at_300) rfl (l' := #[.val (.int p1), .val (.int p2), .val (.int p3), .val (.int p4), .val (.int (4 : Int32)), .val (.ref b1_), .val (.ref b101_), .val (.int vq), .val (.ref b_124_), .val (.int (1 : Int32)), .val (.int (x3 &&& (255 : Int32)))]) rfl ?_
      show Steps pP.tables eE below (T131_.setTop (mkF mM 302 #[.val (.int p1), .val (.int p2), .val (.int p3), .val (.int p4), .val (.int (4 : Int32)), .val (.ref b1_), .val (.ref b101_), .val (.int vq), .val (.ref b_124_), .val (.int (1 : Int32)), .val (.int (x3 &&& (255 : Int32)))] [])) tT
      refine XS.iload X131_.here hx rfl (Jvm.hb hby at_302) rfl ?_
      show Steps pP.tables eE below (T131_.setTop (mkF mM 304 #[.val (.int p1), .val (.int p2), .val (.int p3), .val (.int p4), .val (.int (4 : Int32)), .val (.ref b1_), .val (.ref b101_), .val (.int vq), .val (.ref b_124_), .val (.int (1 : Int32)), .val (.int (x3 &&& (255 : Int32)))] [(.int (1 : Int32))])) tT
      exact kK
    obtain ⟨fs, hr, hrun, hended, hW, hsame⟩ := X131_.leave (v := some (.int (1 : Int32))) (fun h => by rw [Bd.returns] at h; cases h)
    refine ⟨_, _, ?_, hrun, hended, _, _, rfl, ?_, ⟨_, rfl⟩, hW, hsame.mono (by decide) (by decide)⟩
    · show Steps pP.tables eE below (T131_.setTop (mkF mM 304 #[.val (.int p1), .val (.int p2), .val (.int p3), .val (.int p4), .val (.int (4 : Int32)), .val (.ref b1_), .val (.ref b101_), .val (.int vq), .val (.ref b_124_), .val (.int (1 : Int32)), .val (.int (x3 &&& (255 : Int32)))] [(.int (1 : Int32))])) _
      exact retN X131_ hx (t := .boolean) Bd.returns (by simp) (Jvm.hb hby at_304) hr
    · show Q_rm0 Z p1 p2 p3 p4 h0 n0 _ T131_.heap _
      rw [p131__0]
      exact ⟨rfl, N131_⟩
  · show own_Fin pP eE below _ (T17_.setTop (mkF mM 83 #[.val (.int p1), .val (.int p2), .val (.int p3), .val (.int p4), .val (.int (5 : Int32)), .val (.ref b1_), .unset, .unset, .unset, .unset, .unset] []))
    refine own_fin (b := T17_.setTop (mkF mM 85 #[.val (.int p1), .val (.int p2), .val (.int p3), .val (.int p4), .val (.int (5 : Int32)), .val (.ref b1_), .unset, .unset, .unset, .unset, .unset] [(.int (5 : Int32))])) (fun tT kK => ?_) ?_
    · show Steps pP.tables eE below (T17_.setTop (mkF mM 83 #[.val (.int p1), .val (.int p2), .val (.int p3), .val (.int p4), .val (.int (5 : Int32)), .val (.ref b1_), .unset, .unset, .unset, .unset, .unset] [])) tT
      refine XS.iload X17_.here hx rfl (Jvm.hb hby at_83) rfl ?_
      show Steps pP.tables eE below (T17_.setTop (mkF mM 85 #[.val (.int p1), .val (.int p2), .val (.int p3), .val (.int p4), .val (.int (5 : Int32)), .val (.ref b1_), .unset, .unset, .unset, .unset, .unset] [(.int (5 : Int32))])) tT
      exact kK
    obtain ⟨T135_, h135_, k135_, X135_, e135_, E135_, A135_, st135_⟩ := newP X17_ hx hZ (hw _ (List.mem_of_getElem? (i := 0) rfl)) e17_ (g := (mkF mM 85 #[.val (.int p1), .val (.int p2), .val (.int p3), .val (.int p4), .val (.int (5 : Int32)), .val (.ref b1_), .unset, .unset, .unset, .unset, .unset] [(.int (5 : Int32))])) rfl (Jvm.hb hby at_85) rfl (by decide) (cap := 5) (by decide) (by decide) (by decide) (by decide)
    obtain ⟨b135_, g135_⟩ : ∃ z, z = h17_.size := ⟨_, rfl⟩
    rw [← g135_] at A135_ st135_
    have sz_b135_ : h0.size ≤ b135_ := Nat.le_trans K17_.1 (Nat.le_of_eq g135_.symm)
    have ge_b135_ : n0 ≤ b135_ := Nat.le_trans Z0 sz_b135_
    have ne136_ : b1_ ≠ b135_ := Nat.ne_of_lt (Nat.lt_of_lt_of_le V17_.lt (Nat.le_of_eq g135_.symm))
    have fc137_ := V17_.ext E135_
    have K135_ := K17_.ext E135_
    have V135_ : Arv Z h135_ b135_ k135_ .byte (5 : Int32) [(.int (0 : Int32)), (.int (0 : Int32)), (.int (0 : Int32)), (.int (0 : Int32)), (.int (0 : Int32))] (.int (0 : Int32)) := (Arv.new A135_ (by decide)).pad (pad_rep [] (.int (0 : Int32)) 5)
    refine own_fin st135_ ?_
    show own_Fin pP eE below _ (T135_.setTop (mkF mM 87 #[.val (.int p1), .val (.int p2), .val (.int p3), .val (.int p4), .val (.int (5 : Int32)), .val (.ref b1_), .unset, .unset, .unset, .unset, .unset] [(.ref b135_)]))
    refine own_fin (b := T135_.setTop (mkF mM 100 #[.val (.int p1), .val (.int p2), .val (.int p3), .val (.int p4), .val (.int (5 : Int32)), .val (.ref b1_), .val (.ref b135_), .unset, .unset, .unset, .unset] [(.int (0 : Int32)), (.ref b1_), (.int (0 : Int32)), (.ref b135_)])) (fun tT kK => ?_) ?_
    · show Steps pP.tables eE below (T135_.setTop (mkF mM 87 #[.val (.int p1), .val (.int p2), .val (.int p3), .val (.int p4), .val (.int (5 : Int32)), .val (.ref b1_), .unset, .unset, .unset, .unset, .unset] [(.ref b135_)])) tT
      refine XS.astore X135_.here hx rfl (Jvm.hb hby at_87) rfl rfl (l' := #[.val (.int p1), .val (.int p2), .val (.int p3), .val (.int p4), .val (.int (5 : Int32)), .val (.ref b1_), .val (.ref b135_), .unset, .unset, .unset, .unset]) rfl ?_
      show Steps pP.tables eE below (T135_.setTop (mkF mM 89 #[.val (.int p1), .val (.int p2), .val (.int p3), .val (.int p4), .val (.int (5 : Int32)), .val (.ref b1_), .val (.ref b135_), .unset, .unset, .unset, .unset] [])) tT
      refine XS.iload X135_.here hx rfl (Jvm.hb hby at_89) rfl ?_
      show Steps pP.tables eE below (T135_.setTop (mkF mM 91 #[.val (.int p1), .val (.int p2), .val (.int p3), .val (.int p4), .val (.int (5 : Int32)), .val (.ref b1_), .val (.ref b135_), .unset, .unset, .unset, .unset] [(.int (5 : Int32))])) tT
      refine XS.ifNo X135_.here hx rfl (Jvm.hb hby at_91) rfl ((if0 _ _).trans (tlt ((by decide) : (0 : Int32) < (5 : Int32))).2.2.2) ?_
      show Steps pP.tables eE below (T135_.setTop (mkF mM 94 #[.val (.int p1), .val (.int p2), .val (.int p3), .val (.int p4), .val (.int (5 : Int32)), .val (.ref b1_), .val (.ref b135_), .unset, .unset, .unset, .unset] [])) tT
      refine XS.aload X135_.here hx rfl (Jvm.hb hby at_94) rfl rfl ?_
      show Steps pP.tables eE below (T135_.setTop (mkF mM 96 #[.val (.int p1), .val (.int p2), .val (.int p3), .val (.int p4), .val (.int (5 : Int32)), .val (.ref b1_), .val (.ref b135_), .unset, .unset, .unset, .unset] [(.ref b135_)])) tT
      refine XS.iconst X135_.here hx rfl (Jvm.hb hby at_96) ?_
      show Steps pP.tables eE below (T135_.setTop (mkF mM 97 #[.val (.int p1), .val (.int p2), .val (.int p3), .val (.int p4), .val (.int (5 : Int32)), .val (.ref b1_), .val (.ref b135_), .unset, .unset, .unset, .unset] [(.int (0 : Int32)), (.ref b135_)])) tT
      refine XS.aload X135_.here hx rfl (Jvm.hb hby at_97) rfl rfl ?_
      show Steps pP.tables eE below (T135_.setTop (mkF mM 99 #[.val (.int p1), .val (.int p2), .val (.int p3), .val (.int p4), .val (.int (5 : Int32)), .val (.ref b1_), .val (.ref b135_), .unset, .unset, .unset, .unset] [(.ref b1_), (.int (0 : Int32)), (.ref b135_)])) tT
      refine XS.iconst X135_.here hx rfl (Jvm.hb hby at_99) ?_
      show Steps pP.tables eE below (T135_.setTop (mkF mM 100 #[.val (.int p1), .val (.int p2), .val (.int p3), .val (.int p4), .val (.int (5 : Int32)), .val (.ref b1_), .val (.ref b135_), .unset, .unset, .unset, .unset] [(.int (0 : Int32)), (.ref b1_), (.int (0 : Int32)), (.ref b135_)])) tT
      exact kK
    obtain ⟨cl138_, Ar138_, qk138_, Sz138_, Nn138_, Hh138_, Gg138_⟩ := id fc137_
    have hin139_ : ¬ ((0 : Int32) < 0 ∨ cl138_.slots.size ≤ ((0 : Int32)).toNatClampNeg) := inb_of Sz138_ ⟨by decide, by decide⟩
    have hat139_ : cl138_.slots[((0 : Int32)).toNatClampNeg]? = some (.int x0) := Hh138_.at hin139_ rfl
    refine own_fin (b := T135_.setTop (mkF mM 101 #[.val (.int p1), .val (.int p2), .val (.int p3), .val (.int p4), .val (.int (5 : Int32)), .val (.ref b1_), .val (.ref b135_), .unset, .unset, .unset, .unset] [(.int x0), (.int (0 : Int32)), (.ref b135_)])) (fun tT kK => ?_) ?_
    · show Steps pP.tables eE below (T135_.setTop (mkF mM 100 #[.val (.int p1), .val (.int p2), .val (.int p3), .val (.int p4), .val (.int (5 : Int32)), .val (.ref b1_), .val (.ref b135_), .unset, .unset, .unset, .unset] [(.int (0 : Int32)), (.ref b1_), (.int (0 : Int32)), (.ref b135_)])) tT
      refine X135_.baloadBytes hx (j := (0 : Int32)) (v := (.int x0)) (own_rw e135_ Ar138_.1) (State.isArrayOf_alike hZ.alike Ar138_.2.1) Ar138_.2.2 hin139_ hat139_ (g := (mkF mM 100 #[.val (.int p1), .val (.int p2), .val (.int p3), .val (.int p4), .val (.int (5 : Int32)), .val (.ref b1_), .val (.ref b135_), .unset, .unset, .unset, .unset] [(.int (0 : Int32)), (.ref b1_), (.int (0 : Int32)), (.ref b135_)])) rfl rfl (Jvm.hb hby at_100) _ ?_
      show Steps pP.tables eE below (T135_.setTop (mkF mM 101 #[.val (.int p1), .val (.int p2), .val (.int p3), .val (.int p4), .val (.int (5 : Int32)), .val (.ref b1_), .val (.ref b135_), .unset, .unset, .unset, .unset] [(.int x0), (.int (0 : Int32)), (.ref b135_)])) tT
      exact kK
    obtain ⟨cl140_, Ar140_, qk140_, Sz140_, Nn140_, Hh140_, Gg140_⟩ := id V135_
    have hin141_ : ¬ ((0 : Int32) < 0 ∨ cl140_.slots.size ≤ ((0 : Int32)).toNatClampNeg) := inb_of Sz140_ ⟨by decide, by decide⟩
    obtain ⟨T141_, h141_, X141_, e141_, W141_, st141_⟩ := stB X135_ hx hZ e135_ Ar140_ (j := (0 : Int32)) hin141_ (g := (mkF mM 101 #[.val (.int p1), .val (.int p2), .val (.int p3), .val (.int p4), .val (.int (5 : Int32)), .val (.ref b1_), .val (.ref b135_), .unset, .unset, .unset, .unset] [(.int x0), (.int (0 : Int32)), (.ref b135_)])) rfl rfl (Jvm.hb hby at_101)
    have V141_ : Arv Z h141_ b135_ k135_ .byte (5 : Int32) [(.int (nar .byte x0)), (.int (0 : Int32)), (.int (0 : Int32)), (.int (0 : Int32)), (.int (0 : Int32))] (.int (0 : Int32)) := Arv.set Ar140_ qk140_ Sz140_ Nn140_ Hh140_ Gg140_ (fits_nar_byte _) W141_ 0 rfl (Nat.le_of_ble_eq_true rfl)
    have fc142_ := fc137_.other W141_ ne136_
    have K141_ := K135_.wr W141_ (Or.inr sz_b135_)
    have N141_ := Fr.snoc X141_ N17_ ge_b135_
    refine own_fin st141_ ?_
    show own_Fin pP eE below _ (T141_.setTop (mkF mM 102 #[.val (.int p1), .val (.int p2), .val (.int p3), .val (.int p4), .val (.int (5 : Int32)), .val (.ref b1_), .val (.ref b135_), .unset, .unset, .unset, .unset] []))
    refine own_fin (b := T141_.setTop (mkF mM 114 #[.val (.int p1), .val (.int p2), .val (.int p3), .val (.int p4), .val (.int (5 : Int32)), .val (.ref b1_), .val (.ref b135_), .unset, .unset, .unset, .unset] [(.int (1 : Int32)), (.ref b1_), (.int (1 : Int32)), (.ref b135_)])) (fun tT kK => ?_) ?_
    · show Steps pP.tables eE below (T141_.setTop (mkF mM 102 #[.val (.int p1), .val (.int p2), .val (.int p3), .val (.int p4), .val (.int (5 : Int32)), .val (.ref b1_), .val (.ref b135_), .unset, .unset, .unset, .unset] [])) tT
      refine XS.iload X141_.here hx rfl (Jvm.hb hby at_102) rfl ?_
      show Steps pP.tables eE below (T141_.setTop (mkF mM 104 #[.val (.int p1), .val (.int p2), .val (.int p3), .val (.int p4), .val (.int (5 : Int32)), .val (.ref b1_), .val (.ref b135_), .unset, .unset, .unset, .unset] [(.int (5 : Int32))])) tT
      refine XS.iconst X141_.here hx rfl (Jvm.hb hby at_104) ?_
      show Steps pP.tables eE below (T141_.setTop (mkF mM 105 #[.val (.int p1), .val (.int p2), .val (.int p3), .val (.int p4), .val (.int (5 : Int32)), .val (.ref b1_), .val (.ref b135_), .unset, .unset, .unset, .unset] [(.int (1 : Int32)), (.int (5 : Int32))])) tT
      refine XS.icmpNo X141_.here hx rfl (Jvm.hb hby at_105) rfl (tlt ((by decide) : (1 : Int32) < (5 : Int32))).2.2.2 ?_
      show Steps pP.tables eE below (T141_.setTop (mkF mM 108 #[.val (.int p1), .val (.int p2), .val (.int p3), .val (.int p4), .val (.int (5 : Int32)), .val (.ref b1_), .val (.ref b135_), .unset, .unset, .unset, .unset] [])) tT
      refine XS.aload X141_.here hx rfl (Jvm.hb hby at_108) rfl rfl ?_
      show Steps pP.tables eE below (T141_.setTop (mkF mM 110 #[.val (.int p1), .val (.int p2), .val (.int p3), .val (.int p4), .val (.int (5 : Int32)), .val (.ref b1_), .val (.ref b135_), .unset, .unset, .unset, .unset] [(.ref b135_)])) tT
      refine XS.iconst X141_.here hx rfl (Jvm.hb hby at_110) ?_
      show Steps pP.tables eE below (T141_.setTop (mkF mM 111 #[.val (.int p1), .val (.int p2), .val (.int p3), .val (.int p4), .val (.int (5 : Int32)), .val (.ref b1_), .val (.ref b135_), .unset, .unset, .unset, .unset] [(.int (1 : Int32)), (.ref b135_)])) tT
      refine XS.aload X141_.here hx rfl (Jvm.hb hby at_111) rfl rfl ?_
      show Steps pP.tables eE below (T141_.setTop (mkF mM 113 #[.val (.int p1), .val (.int p2), .val (.int p3), .val (.int p4), .val (.int (5 : Int32)), .val (.ref b1_), .val (.ref b135_), .unset, .unset, .unset, .unset] [(.ref b1_), (.int (1 : Int32)), (.ref b135_)])) tT
      refine XS.iconst X141_.here hx rfl (Jvm.hb hby at_113) ?_
      show Steps pP.tables eE below (T141_.setTop (mkF mM 114 #[.val (.int p1), .val (.int p2), .val (.int p3), .val (.int p4), .val (.int (5 : Int32)), .val (.ref b1_), .val (.ref b135_), .unset, .unset, .unset, .unset] [(.int (1 : Int32)), (.ref b1_), (.int (1 : Int32)), (.ref b135_)])) tT
      exact kK
    obtain ⟨cl143_, Ar143_, qk143_, Sz143_, Nn143_, Hh143_, Gg143_⟩ := id fc142_
    have hin144_ : ¬ ((1 : Int32) < 0 ∨ cl143_.slots.size ≤ ((1 : Int32)).toNatClampNeg) := inb_of Sz143_ ⟨by decide, by decide⟩
    have hat144_ : cl143_.slots[((1 : Int32)).toNatClampNeg]? = some (.int x1) := Hh143_.at hin144_ rfl
    refine own_fin (b := T141_.setTop (mkF mM 115 #[.val (.int p1), .val (.int p2), .val (.int p3), .val (.int p4), .val (.int (5 : Int32)), .val (.ref b1_), .val (.ref b135_), .unset, .unset, .unset, .unset] [(.int x1), (.int (1 : Int32)), (.ref b135_)])) (fun tT kK => ?_) ?_
    · show Steps pP.tables eE below (T141_.setTop (mkF mM 114 #[.val (.int p1), .val (.int p2), .val (.int p3), .val (.int p4), .val (.int (5 : Int32)), .val (.ref b1_), .val (.ref b135_), .unset, .unset, .unset, .unset] [(.int (1 : Int32)), (.ref b1_), (.int (1 : Int32)), (.ref b135_)])) tT
      refine X141_.baloadBytes hx (j := (1 : Int32)) (v := (.int x1)) (own_rw e141_ Ar143_.1) (State.isArrayOf_alike hZ.alike Ar143_.2.1) Ar143_.2.2 hin144_ hat144_ (g := (mkF mM 114 #[.val (.int p1), .val (.int p2), .val (.int p3), .val (.int p4), .val (.int (5 : Int32)), .val (.ref b1_), .val (.ref b135_), .unset, .unset, .unset, .unset] [(.int (1 : Int32)), (.ref b1_), (.int (1 : Int32)), (.ref b135_)])) rfl rfl (Jvm.hb hby at_114) _ ?_
      show Steps pP.tables eE below (T141_.setTop (mkF mM 115 #[.val (.int p1), .val (.int p2), .val (.int p3), .val (.int p4), .val (.int (5 : Int32)), .val (.ref b1_), .val (.ref b135_), .unset, .unset, .unset, .unset] [(.int x1), (.int (1 : Int32)), (.ref b135_)])) tT
      exact kK
    obtain ⟨cl145_, Ar145_, qk145_, Sz145_, Nn145_, Hh145_, Gg145_⟩ := id V141_
    have hin146_ : ¬ ((1 : Int32) < 0 ∨ cl145_.slots.size ≤ ((1 : Int32)).toNatClampNeg) := inb_of Sz145_ ⟨by decide, by decide⟩
    obtain ⟨T146_, h146_, X146_, e146_, W146_, st146_⟩ := stB X141_ hx hZ e141_ Ar145_ (j := (1 : Int32)) hin146_ (g := (mkF mM 115 #[.val (.int p1), .val (.int p2), .val (.int p3), .val (.int p4), .val (.int (5 : Int32)), .val (.ref b1_), .val (.ref b135_), .unset, .unset, .unset, .unset] [(.int x1), (.int (1 : Int32)), (.ref b135_)])) rfl rfl (Jvm.hb hby at_115)
    have V146_ : Arv Z h146_ b135_ k135_ .byte (5 : Int32) [(.int (nar .byte x0)), (.int (nar .byte x1)), (.int (0 : Int32)), (.int (0 : Int32)), (.int (0 : Int32))] (.int (0 : Int32)) := Arv.set Ar145_ qk145_ Sz145_ Nn145_ Hh145_ Gg145_ (fits_nar_byte _) W146_ 1 rfl (Nat.le_of_ble_eq_true rfl)
    have fc147_ := fc142_.other W146_ ne136_
    have K146_ := K141_.wr W146_ (Or.inr sz_b135_)
    have N146_ := Fr.snoc X146_ N141_ ge_b135_
    refine own_fin st146_ ?_
    show own_Fin pP eE below _ (T146_.setTop (mkF mM 116 #[.val (.int p1), .val (.int p2), .val (.int p3), .val (.int p4), .val (.int (5 : Int32)), .val (.ref b1_), .val (.ref b135_), .unset, .unset, .unset, .unset] []))
    refine own_fin (b := T146_.setTop (mkF mM 128 #[.val (.int p1), .val (.int p2), .val (.int p3), .val (.int p4), .val (.int (5 : Int32)), .val (.ref b1_), .val (.ref b135_), .unset, .unset, .unset, .unset] [(.int (2 : Int32)), (.ref b1_), (.int (2 : Int32)), (.ref b135_)])) (fun tT kK => ?_) ?_
    · show Steps pP.tables eE below (T146_.setTop (mkF mM 116 #[.val (.int p1), .val (.int p2), .val (.int p3), .val (.int p4), .val (.int (5 : Int32)), .val (.ref b1_), .val (.ref b135_), .unset, .unset, .unset, .unset] [])) tT
      refine XS.iload X146_.here hx rfl (Jvm.hb hby at_116) rfl ?_
      show Steps pP.tables eE below (T146_.setTop (mkF mM 118 #[.val (.int p1), .val (.int p2), .val (.int p3), .val (.int p4), .val (.int (5 : Int32)), .val (.ref b1_), .val (.ref b135_), .unset, .unset, .unset, .unset] [(.int (5 : Int32))])) tT
      refine XS.iconst X146_.here hx rfl (Jvm.hb hby at_118) ?_
      show Steps pP.tables eE below (T146_.setTop (mkF mM 119 #[.val (.int p1), .val (.int p2), .val (.int p3), .val (.int p4), .val (.int (5 : Int32)), .val (.ref b1_), .val (.ref b135_), .unset, .unset, .unset, .unset] [(.int (2 : Int32)), (.int (5 : Int32))])) tT
      refine XS.icmpNo X146_.here hx rfl (Jvm.hb hby at_119) rfl (tlt ((by decide) : (2 : Int32) < (5 : Int32))).2.2.2 ?_
      show Steps pP.tables eE below (T146_.setTop (mkF mM 122 #[.val (.int p1), .val (.int p2), .val (.int p3), .val (.int p4), .val (.int (5 : Int32)), .val (.ref b1_), .val (.ref b135_), .unset, .unset, .unset, .unset] [])) tT
      refine XS.aload X146_.here hx rfl (Jvm.hb hby at_122) rfl rfl ?_
      show Steps pP.tables eE below (T146_.setTop (mkF mM 124 #[.val (.int p1), .val (.int p2), .val (.int p3), .val (.int p4), .val (.int (5 : Int32)), .val (.ref b1_), .val (.ref b135_), .unset, .unset, .unset, .unset] [(.ref b135_)])) tT
      refine XS.iconst X146_.here hx rfl (Jvm.hb hby at_124) ?_
      show Steps pP.tables eE below (T146_.setTop (mkF mM 125 #[.val (.int p1), .val (.int p2), .val (.int p3), .val (.int p4), .val (.int (5 : Int32)), .val (.ref b1_), .val (.ref b135_), .unset, .unset, .unset, .unset] [(.int (2 : Int32)), (.ref b135_)])) tT
      refine XS.aload X146_.here hx rfl (Jvm.hb hby at_125) rfl rfl ?_
      show Steps pP.tables eE below (T146_.setTop (mkF mM 127 #[.val (.int p1), .val (.int p2), .val (.int p3), .val (.int p4), .val (.int (5 : Int32)), .val (.ref b1_), .val (.ref b135_), .unset, .unset, .unset, .unset] [(.ref b1_), (.int (2 : Int32)), (.ref b135_)])) tT
      refine XS.iconst X146_.here hx rfl (Jvm.hb hby at_127) ?_
      show Steps pP.tables eE below (T146_.setTop (mkF mM 128 #[.val (.int p1), .val (.int p2), .val (.int p3), .val (.int p4), .val (.int (5 : Int32)), .val (.ref b1_), .val (.ref b135_), .unset, .unset, .unset, .unset] [(.int (2 : Int32)), (.ref b1_), (.int (2 : Int32)), (.ref b135_)])) tT
      exact kK
    obtain ⟨cl148_, Ar148_, qk148_, Sz148_, Nn148_, Hh148_, Gg148_⟩ := id fc147_
    have hin149_ : ¬ ((2 : Int32) < 0 ∨ cl148_.slots.size ≤ ((2 : Int32)).toNatClampNeg) := inb_of Sz148_ ⟨by decide, by decide⟩
    have hat149_ : cl148_.slots[((2 : Int32)).toNatClampNeg]? = some (.int x2) := Hh148_.at hin149_ rfl
    refine own_fin (b := T146_.setTop (mkF mM 129 #[.val (.int p1), .val (.int p2), .val (.int p3), .val (.int p4), .val (.int (5 : Int32)), .val (.ref b1_), .val (.ref b135_), .unset, .unset, .unset, .unset] [(.int x2), (.int (2 : Int32)), (.ref b135_)])) (fun tT kK => ?_) ?_
    · show Steps pP.tables eE below (T146_.setTop (mkF mM 128 #[.val (.int p1), .val (.int p2), .val (.int p3), .val (.int p4), .val (.int (5 : Int32)), .val (.ref b1_), .val (.ref b135_), .unset, .unset, .unset, .unset] [(.int (2 : Int32)), (.ref b1_), (.int (2 : Int32)), (.ref b135_)])) tT
      refine X146_.baloadBytes hx (j := (2 : Int32)) (v := (.int x2)) (own_rw e146_ Ar148_.1) (State.isArrayOf_alike hZ.alike Ar148_.2.1) Ar148_.2.2 hin149_ hat149_ (g := (mkF mM 128 #[.val (.int p1), .val (.int p2), .val (.int p3), .val (.int p4), .val (.int (5 : Int32)), .val (.ref b1_), .val (.ref b135_), .unset, .unset, .unset, .unset] [(.int (2 : Int32)), (.ref b1_), (.int (2 : Int32)), (.ref b135_)])) rfl rfl (Jvm.hb hby at_128) _ ?_
      show Steps pP.tables eE below (T146_.setTop (mkF mM 129 #[.val (.int p1), .val (.int p2), .val (.int p3), .val (.int p4), .val (.int (5 : Int32)), .val (.ref b1_), .val (.ref b135_), .unset, .unset, .unset, .unset] [(.int x2), (.int (2 : Int32)), (.ref b135_)])) tT
      exact kK
    obtain ⟨cl150_, Ar150_, qk150_, Sz150_, Nn150_, Hh150_, Gg150_⟩ := id V146_
    have hin151_ : ¬ ((2 : Int32) < 0 ∨ cl150_.slots.size ≤ ((2 : Int32)).toNatClampNeg) := inb_of Sz150_ ⟨by decide, by decide⟩
    obtain ⟨T151_, h151_, X151_, e151_, W151_, st151_⟩ := stB X146_ hx hZ e146_ Ar150_ (j := (2 : Int32)) hin151_ (g := (mkF mM 129 #[.val (.int p1), .val (.int p2), .val (.int p3), .val (.int p4), .val (.int (5 : Int32)), .val (.ref b1_), .val (.ref b135_), .unset, .unset, .unset, .unset] [(.int x2), (.int (2 : Int32)), (.ref b135_)])) rfl rfl (Jvm.hb hby at_129)
    have V151_ : Arv Z h151_ b135_ k135_ .byte (5 : Int32) [(.int (nar .byte x0)), (.int (nar .byte x1)), (.int (nar .byte x2)), (.int (0 : Int32)), (.int (0 : Int32))] (.int (0 : Int32)) := Arv.set Ar150_ qk150_ Sz150_ Nn150_ Hh150_ Gg150_ (fits_nar_byte _) W151_ 2 rfl (Nat.le_of_ble_eq_true rfl)
    have fc152_ := fc147_.other W151_ ne136_
    have K151_ := K146_.wr W151_ (Or.inr sz_b135_)
    have N151_ := Fr.snoc X151_ N146_ ge_b135_
    refine own_fin st151_ ?_
    show own_Fin pP eE below _ (T151_.setTop (mkF mM 130 #[.val (.int p1), .val (.int p2), .val (.int p3), .val (.int p4), .val (.int (5 : Int32)), .val (.ref b1_), .val (.ref b135_), .unset, .unset, .unset, .unset] []))
    refine own_fin (b := T151_.setTop (mkF mM 142 #[.val (.int p1), .val (.int p2), .val (.int p3), .val (.int p4), .val (.int (5 : Int32)), .val (.ref b1_), .val (.ref b135_), .unset, .unset, .unset, .unset] [(.int (3 : Int32)), (.ref b1_), (.int (3 : Int32)), (.ref b135_)])) (fun tT kK => ?_) ?_
    · show Steps pP.tables eE below (T151_.setTop (mkF mM 130 #[.val (.int p1), .val (.int p2), .val (.int p3), .val (.int p4), .val (.int (5 : Int32)), .val (.ref b1_), .val (.ref b135_), .unset, .unset, .unset, .unset] [])) tT
      refine XS.iload X151_.here hx rfl (Jvm.hb hby at_130) rfl ?_
      show Steps pP.tables eE below (T151_.setTop (mkF mM 132 #[.val (.int p1), .val (.int p2), .val (.int p3), .val (.int p4), .val (.int (5 : Int32)), .val (.ref b1_), .val (.ref b135_), .unset, .unset, .unset, .unset] [(.int (5 : Int32))])) tT
      refine XS.iconst X151_.here hx rfl (Jvm.hb hby at_132) ?_
      show Steps pP.tables eE below (T151_.setTop (mkF mM 133 #[.val (.int p1), .val (.int p2), .val (.int p3), .val (.int p4), .val (.int (5 : Int32)), .val (.ref b1_), .val (.ref b135_), .unset, .unset, .unset, .unset] [(.int (3 : Int32)), (.int (5 : Int32))])) tT
      refine XS.icmpNo X151_.here hx rfl (Jvm.hb hby at_133) rfl (tlt ((by decide) : (3 : Int32) < (5 : Int32))).2.2.2 ?_
      show Steps pP.tables eE below (T151_.setTop (mkF mM 136 #[.val (.int p1), .val (.int p2), .val (.int p3), .val (.int p4), .val (.int (5 : Int32)), .val (.ref b1_), .val (.ref b135_), .unset, .unset, .unset, .unset] [])) tT
      refine XS.aload X151_.here hx rfl (Jvm.hb hby at_136) rfl rfl ?_
      show Steps pP.tables eE below (T151_.setTop (mkF mM 138 #[.val (.int p1), .val (.int p2), .val (.int p3), .val (.int p4), .val (.int (5 : Int32)), .val (.ref b1_), .val (.ref b135_), .unset, .unset, .unset, .unset] [(.ref b135_)])) tT
      refine XS.iconst X151_.here hx rfl (Jvm.hb hby at_138) ?_
      show Steps pP.tables eE below (T151_.setTop (mkF mM 139 #[.val (.int p1), .val (.int p2), .val (.int p3), .val (.int p4), .val (.int (5 : Int32)), .val (.ref b1_), .val (.ref b135_), .unset, .unset, .unset, .unset] [(.int (3 : Int32)), (.ref b135_)])) tT
      refine XS.aload X151_.here hx rfl (Jvm.hb hby at_139) rfl rfl ?_
      show Steps pP.tables eE below (T151_.setTop (mkF mM 141 #[.val (.int p1), .val (.int p2), .val (.int p3), .val (.int p4), .val (.int (5 : Int32)), .val (.ref b1_), .val (.ref b135_), .unset, .unset, .unset, .unset] [(.ref b1_), (.int (3 : Int32)), (.ref b135_)])) tT
      refine XS.iconst X151_.here hx rfl (Jvm.hb hby at_141) ?_
      show Steps pP.tables eE below (T151_.setTop (mkF mM 142 #[.val (.int p1), .val (.int p2), .val (.int p3), .val (.int p4), .val (.int (5 : Int32)), .val (.ref b1_), .val (.ref b135_), .unset, .unset, .unset, .unset] [(.int (3 : Int32)), (.ref b1_), (.int (3 : Int32)), (.ref b135_)])) tT
      exact kK
    obtain ⟨cl153_, Ar153_, qk153_, Sz153_, Nn153_, Hh153_, Gg153_⟩ := id fc152_
    have hin154_ : ¬ ((3 : Int32) < 0 ∨ cl153_.slots.size ≤ ((3 : Int32)).toNatClampNeg) := inb_of Sz153_ ⟨by decide, by decide⟩
    have hat154_ : cl153_.slots[((3 : Int32)).toNatClampNeg]? = some (.int x3) := Hh153_.at hin154_ rfl
    refine own_fin (b := T151_.setTop (mkF mM 143 #[.val (.int p1), .val (.int p2), .val (.int p3), .val (.int p4), .val (.int (5 : Int32)), .val (.ref b1_), .val (.ref b135_), .unset, .unset, .unset, .unset] [(.int x3), (.int (3 : Int32)), (.ref b135_)])) (fun tT kK => ?_) ?_
    · show Steps pP.tables eE below (T151_.setTop (mkF mM 142 #[.val (.int p1), .val (.int p2), .val (.int p3), .val (.int p4), .val (.int (5 : Int32)), .val (.ref b1_), .val (.ref b135_), .unset, .unset, .unset, .unset] [(.int (3 : Int32)), (.ref b1_), (.int (3 : Int32)), (.ref b135_)])) tT
      refine X151_.baloadBytes hx (j := (3 : Int32)) (v := (.int x3)) (own_rw e151_ Ar153_.1) (State.isArrayOf_alike hZ.alike Ar153_.2.1) Ar153_.2.2 hin154_ hat154_ (g := (mkF mM 142 #[.val (.int p1), .val (.int p2), .val (.int p3), .val (.int p4), .val (.int (5 : Int32)), .val (.ref b1_), .val (.ref b135_), .unset, .unset, .unset, .unset] [(.int (3 : Int32)), (.ref b1_), (.int (3 : Int32)), (.ref b135_)])) rfl rfl (Jvm.hb hby at_142) _ ?_
      show Steps pP.tables eE below (T151_.setTop (mkF mM 143 #[.val (.int p1), .val (.int p2), .val (.int p3), .val (.int p4), .val (.int (5 : Int32)), .val (.ref b1_), .val (.ref b135_), .unset, .unset, .unset, .unset] [(.int x3), (.int (3 : Int32)), (.ref b135_)])) tT
      exact kK
    obtain ⟨cl155_, Ar155_, qk155_, Sz155_, Nn155_, Hh155_, Gg155_⟩ := id V151_
    have hin156_ : ¬ ((3 : Int32) < 0 ∨ cl155_.slots.size ≤ ((3 : Int32)).toNatClampNeg) := inb_of Sz155_ ⟨by decide, by decide⟩
    obtain ⟨T156_, h156_, X156_, e156_, W156_, st156_⟩ := stB X151_ hx hZ e151_ Ar155_ (j := (3 : Int32)) hin156_ (g := (mkF mM 143 #[.val (.int p1), .val (.int p2), .val (.int p3), .val (.int p4), .val (.int (5 : Int32)), .val (.ref b1_), .val (.ref b135_), .unset, .unset, .unset, .unset] [(.int x3), (.int (3 : Int32)), (.ref b135_)])) rfl rfl (Jvm.hb hby at_143)
    have V156_ : Arv Z h156_ b135_ k135_ .byte (5 : Int32) [(.int (nar .byte x0)), (.int (nar .byte x1)), (.int (nar .byte x2)), (.int (nar .byte x3)), (.int (0 : Int32))] (.int (0 : Int32)) := Arv.set Ar155_ qk155_ Sz155_ Nn155_ Hh155_ Gg155_ (fits_nar_byte _) W156_ 3 rfl (Nat.le_of_ble_eq_true rfl)
    have fc157_ := fc152_.other W156_ ne136_
    have K156_ := K151_.wr W156_ (Or.inr sz_b135_)
    have N156_ := Fr.snoc X156_ N151_ ge_b135_
    refine own_fin st156_ ?_
    show own_Fin pP eE below _ (T156_.setTop (mkF mM 144 #[.val (.int p1), .val (.int p2), .val (.int p3), .val (.int p4), .val (.int (5 : Int32)), .val (.ref b1_), .val (.ref b135_), .unset, .unset, .unset, .unset] []))
    refine own_fin (b := T156_.setTop (mkF mM 156 #[.val (.int p1), .val (.int p2), .val (.int p3), .val (.int p4), .val (.int (5 : Int32)), .val (.ref b1_), .val (.ref b135_), .unset, .unset, .unset, .unset] [(.int (4 : Int32)), (.ref b1_), (.int (4 : Int32)), (.ref b135_)])) (fun tT kK => ?_) ?_
    · show Steps pP.tables eE below (T156_.setTop (mkF mM 144 #[.val (.int p1), .val (.int p2), .val (.int p3), .val (.int p4), .val (.int (5 : Int32)), .val (.ref b1_), .val (.ref b135_), .unset, .unset, .unset, .unset] [])) tT
      refine XS.iload X156_.here hx rfl (Jvm.hb hby at_144) rfl ?_
      show Steps pP.tables eE below (T156_.setTop (mkF mM 146 #[.val (.int p1), .val (.int p2), .val (.int p3), .val (.int p4), .val (.int (5 : Int32)), .val (.ref b1_), .val (.ref b135_), .unset, .unset, .unset, .unset] [(.int (5 : Int32))])) tT
      refine XS.iconst X156_.here hx rfl (Jvm.hb hby at_146) ?_
      show Steps pP.tables eE below (T156_.setTop (mkF mM 147 #[.val (.int p1), .val (.int p2), .val (.int p3), .val (.int p4), .val (.int (5 : Int32)), .val (.ref b1_), .val (.ref b135_), .unset, .unset, .unset, .unset] [(.int (4 : Int32)), (.int (5 : Int32))])) tT
      refine XS.icmpNo X156_.here hx rfl (Jvm.hb hby at_147) rfl (tlt ((by decide) : (4 : Int32) < (5 : Int32))).2.2.2 ?_
      show Steps pP.tables eE below (T156_.setTop (mkF mM 150 #[.val (.int p1), .val (.int p2), .val (.int p3), .val (.int p4), .val (.int (5 : Int32)), .val (.ref b1_), .val (.ref b135_), .unset, .unset, .unset, .unset] [])) tT
      refine XS.aload X156_.here hx rfl (Jvm.hb hby at_150) rfl rfl ?_
      show Steps pP.tables eE below (T156_.setTop (mkF mM 152 #[.val (.int p1), .val (.int p2), .val (.int p3), .val (.int p4), .val (.int (5 : Int32)), .val (.ref b1_), .val (.ref b135_), .unset, .unset, .unset, .unset] [(.ref b135_)])) tT
      refine XS.iconst X156_.here hx rfl (Jvm.hb hby at_152) ?_
      show Steps pP.tables eE below (T156_.setTop (mkF mM 153 #[.val (.int p1), .val (.int p2), .val (.int p3), .val (.int p4), .val (.int (5 : Int32)), .val (.ref b1_), .val (.ref b135_), .unset, .unset, .unset, .unset] [(.int (4 : Int32)), (.ref b135_)])) tT
      refine XS.aload X156_.here hx rfl (Jvm.hb hby at_153) rfl rfl ?_
      show Steps pP.tables eE below (T156_.setTop (mkF mM 155 #[.val (.int p1), .val (.int p2), .val (.int p3), .val (.int p4), .val (.int (5 : Int32)), .val (.ref b1_), .val (.ref b135_), .unset, .unset, .unset, .unset] [(.ref b1_), (.int (4 : Int32)), (.ref b135_)])) tT
      refine XS.iconst X156_.here hx rfl (Jvm.hb hby at_155) ?_
      show Steps pP.tables eE below (T156_.setTop (mkF mM 156 #[.val (.int p1), .val (.int p2), .val (.int p3), .val (.int p4), .val (.int (5 : Int32)), .val (.ref b1_), .val (.ref b135_), .unset, .unset, .unset, .unset] [(.int (4 : Int32)), (.ref b1_), (.int (4 : Int32)), (.ref b135_)])) tT
      exact kK
    obtain ⟨cl158_, Ar158_, qk158_, Sz158_, Nn158_, Hh158_, Gg158_⟩ := id fc157_
    have hin159_ : ¬ ((4 : Int32) < 0 ∨ cl158_.slots.size ≤ ((4 : Int32)).toNatClampNeg) := inb_of Sz158_ ⟨by decide, by decide⟩
    have hat159_ : cl158_.slots[((4 : Int32)).toNatClampNeg]? = some (.int x4) := Hh158_.at hin159_ rfl
    refine own_fin (b := T156_.setTop (mkF mM 157 #[.val (.int p1), .val (.int p2), .val (.int p3), .val (.int p4), .val (.int (5 : Int32)), .val (.ref b1_), .val (.ref b135_), .unset, .unset, .unset, .unset] [(.int x4), (.int (4 : Int32)), (.ref b135_)])) (fun tT kK => ?_) ?_
    · show Steps pP.tables eE below (T156_.setTop (mkF mM 156 #[.val (.int p1), .val (.int p2), .val (.int p3), .val (.int p4), .val (.int (5 : Int32)), .val (.ref b1_), .val (.ref b135_), .unset, .unset, .unset, .unset] [(.int (4 : Int32)), (.ref b1_), (.int (4 : Int32)), (.ref b135_)])) tT
      refine X156_.baloadBytes hx (j := (4 : Int32)) (v := (.int x4)) (own_rw e156_ Ar158_.1) (State.isArrayOf_alike hZ.alike Ar158_.2.1) Ar158_.2.2 hin159_ hat159_ (g := (mkF mM 156 #[.val (.int p1), .val (.int p2), .val (.int p3), .val (.int p4), .val (.int (5 : Int32)), .val (.ref b1_), .val (.ref b135_), .unset, .unset, .unset, .unset] [(.int (4 : Int32)), (.ref b1_), (.int (4 : Int32)), (.ref b135_)])) rfl rfl (Jvm.hb hby at_156) _ ?_
      show Steps pP.tables eE below (T156_.setTop (mkF mM 157 #[.val (.int p1), .val (.int p2), .val (.int p3), .val (.int p4), .val (.int (5 : Int32)), .val (.ref b1_), .val (.ref b135_), .unset, .unset, .unset, .unset] [(.int x4), (.int (4 : Int32)), (.ref b135_)])) tT
      exact kK
    obtain ⟨cl160_, Ar160_, qk160_, Sz160_, Nn160_, Hh160_, Gg160_⟩ := id V156_
    have hin161_ : ¬ ((4 : Int32) < 0 ∨ cl160_.slots.size ≤ ((4 : Int32)).toNatClampNeg) := inb_of Sz160_ ⟨by decide, by decide⟩
    obtain ⟨T161_, h161_, X161_, e161_, W161_, st161_⟩ := stB X156_ hx hZ e156_ Ar160_ (j := (4 : Int32)) hin161_ (g := (mkF mM 157 #[.val (.int p1), .val (.int p2), .val (.int p3), .val (.int p4), .val (.int (5 : Int32)), .val (.ref b1_), .val (.ref b135_), .unset, .unset, .unset, .unset] [(.int x4), (.int (4 : Int32)), (.ref b135_)])) rfl rfl (Jvm.hb hby at_157)
    have V161_ : Arv Z h161_ b135_ k135_ .byte (5 : Int32) [(.int (nar .byte x0)), (.int (nar .byte x1)), (.int (nar .byte x2)), (.int (nar .byte x3)), (.int (nar .byte x4))] (.int (0 : Int32)) := Arv.set Ar160_ qk160_ Sz160_ Nn160_ Hh160_ Gg160_ (fits_nar_byte _) W161_ 4 rfl (Nat.le_of_ble_eq_true rfl)
    have fc162_ := fc157_.other W161_ ne136_
    have K161_ := K156_.wr W161_ (Or.inr sz_b135_)
    have N161_ := Fr.snoc X161_ N156_ ge_b135_
    refine own_fin st161_ ?_
    show own_Fin pP eE below _ (T161_.setTop (mkF mM 158 #[.val (.int p1), .val (.int p2), .val (.int p3), .val (.int p4), .val (.int (5 : Int32)), .val (.ref b1_), .val (.ref b135_), .unset, .unset, .unset, .unset] []))
    refine own_fin (b := T161_.setTop (mkF mM 213 #[.val (.int p1), .val (.int p2), .val (.int p3), .val (.int p4), .val (.int (5 : Int32)), .val (.ref b1_), .val (.ref b135_), .val (.int (p4 &&& (255 : Int32))), .unset, .unset, .unset] [])) (fun tT kK => ?_) ?_
    · show Steps pP.tables eE below (T161_.setTop (mkF mM 158 #[.val (.int p1), .val (.int p2), .val (.int p3), .val (.int p4), .val (.int (5 : Int32)), .val (.ref b1_), .val (.ref b135_), .unset, .unset, .unset, .unset] [])) tT
      refine XS.iload X161_.here hx rfl (Jvm.hb hby at_158) rfl ?_
      show Steps pP.tables eE below (T161_.setTop (mkF mM 160 #[.val (.int p1), .val (.int p2), .val (.int p3), .val (.int p4), .val (.int (5 : Int32)), .val (.ref b1_), .val (.ref b135_), .unset, .unset, .unset, .unset] [(.int (5 : Int32))])) tT
      refine XS.iconst X161_.here hx rfl (Jvm.hb hby at_160) ?_
      show Steps pP.tables eE below (T161_.setTop (mkF mM 161 #[.val (.int p1), .val (.int p2), .val (.int p3), .val (.int p4), .val (.int (5 : Int32)), .val (.ref b1_), .val (.ref b135_), .unset, .unset, .unset, .unset] [(.int (5 : Int32)), (.int (5 : Int32))])) tT
      refine XS.icmpYes X161_.here hx rfl (pc0 := 161) (pc' := 172) rfl (Jvm.hb hby at_161) rfl (flt ((by decide) : ¬ ((5 : Int32) < (5 : Int32)))).2.2.2 (by decide) (by decide) ?_
      show Steps pP.tables eE below (T161_.setTop (mkF mM 172 #[.val (.int p1), .val (.int p2), .val (.int p3), .val (.int p4), .val (.int (5 : Int32)), .val (.ref b1_), .val (.ref b135_), .unset, .unset, .unset, .unset] [])) tT
      refine XS.iload X161_.here hx rfl (Jvm.hb hby at_172) rfl ?_
      show Steps pP.tables eE below (T161_.setTop (mkF mM 174 #[.val (.int p1), .val (.int p2), .val (.int p3), .val (.int p4), .val (.int (5 : Int32)), .val (.ref b1_), .val (.ref b135_), .unset, .unset, .unset, .unset] [(.int (5 : Int32))])) tT
      refine XS.bipush X161_.here hx rfl (Jvm.hb hby at_174) ?_
      show Steps pP.tables eE below (T161_.setTop (mkF mM 176 #[.val (.int p1), .val (.int p2), .val (.int p3), .val (.int p4), .val (.int (5 : Int32)), .val (.ref b1_), .val (.ref b135_), .unset, .unset, .unset, .unset] [(.int (6 : Int32)), (.int (5 : Int32))])) tT
      refine XS.icmpYes X161_.here hx rfl (pc0 := 176) (pc' := 189) rfl (Jvm.hb hby at_176) rfl (flt ((by decide) : ¬ ((6 : Int32) < (5 : Int32)))).2.2.2 (by decide) (by decide) ?_
      show Steps pP.tables eE below (T161_.setTop (mkF mM 189 #[.val (.int p1), .val (.int p2), .val (.int p3), .val (.int p4), .val (.int (5 : Int32)), .val (.ref b1_), .val (.ref b135_), .unset, .unset, .unset, .unset] [])) tT
      refine XS.iload X161_.here hx rfl (Jvm.hb hby at_189) rfl ?_
      show Steps pP.tables eE below (T161_.setTop (mkF mM 191 #[.val (.int p1), .val (.int p2), .val (.int p3), .val (.int p4), .val (.int (5 : Int32)), .val (.ref b1_), .val (.ref b135_), .unset, .unset, .unset, .unset] [(.int (5 : Int32))])) tT
      refine XS.bipush X161_.here hx rfl (Jvm.hb hby at_191) ?_
      show Steps pP.tables eE below (T161_.setTop (mkF mM 193 #[.val (.int p1), .val (.int p2), .val (.int p3), .val (.int p4), .val (.int (5 : Int32)), .val (.ref b1_), .val (.ref b135_), .unset, .unset, .unset, .unset] [(.int (7 : Int32)), (.int (5 : Int32))])) tT
      refine XS.icmpYes X161_.here hx rfl (pc0 := 193) (pc' := 206) rfl (Jvm.hb hby at_193) rfl (flt ((by decide) : ¬ ((7 : Int32) < (5 : Int32)))).2.2.2 (by decide) (by decide) ?_
      show Steps pP.tables eE below (T161_.setTop (mkF mM 206 #[.val (.int p1), .val (.int p2), .val (.int p3), .val (.int p4), .val (.int (5 : Int32)), .val (.ref b1_), .val (.ref b135_), .unset, .unset, .unset, .unset] [])) tT
      refine XS.iloadN X161_.here hx rfl (Jvm.hb hby at_206) rfl ?_
      show Steps pP.tables eE below (T161_.setTop (mkF mM 207 #[.val (.int p1), .val (.int p2), .val (.int p3), .val (.int p4), .val (.int (5 : Int32)), .val (.ref b1_), .val (.ref b135_), .unset, .unset, .unset, .unset] [(.int p4)])) tT
      refine XS.sipush X161_.here hx rfl (Jvm.hb hby at_207) ?_
      show Steps pP.tables eE below (T161_.setTop (mkF mM 210 #[.val (.int p1), .val (.int p2), .val (.int p3), .val (.int p4), .val (.int (5 : Int32)), .val (.ref b1_), .val (.ref b135_), .unset, .unset, .unset, .unset] [(.int (255 : Int32)), (.int p4)])) tT
      refine XS.iand X161_.here hx rfl (Jvm.hb hby at_210) rfl ?_
      show Steps pP.tables eE below (T161_.setTop (mkF mM 211 #[.val (.int p1), .val (.int p2), .val (.int p3), .val (.int p4), .val (.int (5 : Int32)), .val (.ref b1_), .val (.ref b135_), .unset, .unset, .unset, .unset] [(.int (p4 &&& (255 : Int32)))])) tT
      refine XS.istore X161_.here hx rfl (Jvm.hb hby at_211) rfl (l' := #[.val (.int p1), .val (.int p2), .val (.int p3), .val (.int p4), .val (.int (5 : Int32)), .val (.ref b1_), .val (.ref b135_), .val (.int (p4 &&& (255 : Int32))), .unset, .unset, .unset]) rfl ?_
      show Steps pP.tables eE below (T161_.setTop (mkF mM 213 #[.val (.int p1), .val (.int p2), .val (.int p3), .val (.int p4), .val (.int (5 : Int32)), .val (.ref b1_), .val (.ref b135_), .val (.int (p4 &&& (255 : Int32))), .unset, .unset, .unset] [])) tT
      exact kK
    show own_Fin pP eE below _ (T161_.setTop (mkF mM 213 #[.val (.int p1), .val (.int p2), .val (.int p3), .val (.int p4), .val (.int (5 : Int32)), .val (.ref b1_), .val (.ref b135_), .val (.int (p4 &&& (255 : Int32))), .unset, .unset, .unset] []))
    generalize hvq : (p4 &&& (255 : Int32)) = vq
    show own_Fin pP eE below _ (T161_.setTop (mkF mM 213 #[.val (.int p1), .val (.int p2), .val (.int p3), .val (.int p4), .val (.int (5 : Int32)), .val (.ref b1_), .val (.ref b135_), .val (.int vq), .unset, .unset, .unset] []))
    have hq := own_m255 p4
    rw [hvq] at hq
    have Vp : Arv Z h161_ b135_ k135_ .byte (5 : Int32) (([x0, x1, x2, x3, x4] : List Int32).map Value.int) (.int (0 : Int32)) := by have q := V161_; rw [hy0, hy1, hy2, hy3, hy4] at q; exact q
    refine own_fin (b := T161_.setTop (mkF mM 215 #[.val (.int p1), .val (.int p2), .val (.int p3), .val (.int p4), .val (.int (5 : Int32)), .val (.ref b1_), .val (.ref b135_), .val (.int vq), .unset, .unset, .unset] [(.ref b135_)])) (fun tT kK => ?_) ?_
    · show Steps pP.tables eE below (T161_.setTop (mkF mM 213 #[.val (.int p1), .val (.int p2), .val (.int p3), .val (.int p4), .val (.int (5 : Int32)), .val (.ref b1_), .val (.ref b135_), .val (.int vq), .unset, .unset, .unset] [])) tT
      refine XS.aload X161_.here hx rfl (Jvm.hb hby at_213) rfl rfl ?_
      show Steps pP.tables eE below (T161_.setTop (mkF mM 215 #[.val (.int p1), .val (.int p2), .val (.int p3), .val (.int p4), .val (.int (5 : Int32)), .val (.ref b1_), .val (.ref b135_), .val (.int vq), .unset, .unset, .unset] [(.ref b135_)])) tT
      exact kK
    obtain ⟨_, _, ⟨T163_, L163_, k163_, n163_⟩, -, X163_, ⟨Lc163_, hQ163_, l163_, y163_, z163_⟩, st163_⟩ := Jvm.LawKit.callS X161_ hx (y := (⟨"com/example/needlework/needlework/BoyerMoore", "rightmost", "([B)[I"⟩ : MethodName)) hown (mvT hZ (hw _ (List.mem_of_getElem? (i := 1) rfl))) (mvT hZ (hw _ (List.mem_of_getElem? (i := 2) rfl))) (mvT hZ (hw _ (List.mem_of_getElem? (i := 3) rfl))) (mvT hZ (hw _ (List.mem_of_getElem? (i := 4) rfl))) (by decide) (backOf (W := 0) (rm_right lL Z a0 hw [] b135_ k135_ (5 : Int32) ([x0, x1, x2, x3, x4] : List Int32) h161_ n0 (Nat.le_trans Z0 K161_.1) Vp) hZ (hw _ (List.mem_of_getElem? (i := 4) rfl)) (hw _ (List.mem_of_getElem? (i := 3) rfl)) (by decide) (by decide)) (g := (mkF mM 215 #[.val (.int p1), .val (.int p2), .val (.int p3), .val (.int p4), .val (.int (5 : Int32)), .val (.ref b1_), .val (.ref b135_), .val (.int vq), .unset, .unset, .unset] [(.ref b135_)])) rfl (by rw [hml]; rfl) (argsL := [(.ref b135_)]) (rest := []) (lenOf own_pd1 rfl) rfl (by show 2 * 0 + _ ≤ _; exact Nat.le_of_eq rfl) (Jvm.hb hby at_215) (fun _ _ => ⟨rfl, e161_, (by decide : 2 + 1 ≤ _), (by decide : 13 + 256 ≤ _)⟩)
    dsimp only [Pt.U, Pt.locs, Pt.cells, Pt.slots] at X163_ l163_ y163_ z163_ st163_ hQ163_
    subst l163_ y163_ z163_
    obtain ⟨b_163_, rfl, N163_q, p163__0, p163__1, p163__2⟩ := hQ163_
    have N163_ := Fr.app N161_ N163_q
    have sz_b_163_ : h0.size ≤ b_163_ := Nat.le_trans K161_.1 p163__1
    have ge_b_163_ : n0 ≤ b_163_ := Nat.le_trans Z0 sz_b_163_
    have ne164_ : b1_ ≠ b_163_ := Nat.ne_of_lt (Nat.lt_of_lt_of_le fc162_.lt p163__1)
    have ne165_ : b135_ ≠ b_163_ := Nat.ne_of_lt (Nat.lt_of_lt_of_le V161_.lt p163__1)
    have fc166_ := fc162_.keep p163__0 nin0
    have fc167_ := V161_.keep p163__0 nin0
    have K163_ := K161_.trans p163__0 all0
    refine own_fin (fun tT kK => st163_ tT kK) ?_
    show own_Fin pP eE below _ (T163_.setTop (mkF mM 218 #[.val (.int p1), .val (.int p2), .val (.int p3), .val (.int p4), .val (.int (5 : Int32)), .val (.ref b1_), .val (.ref b135_), .val (.int vq), .unset, .unset, .unset] [(.ref b_163_)]))
    refine own_fin (b := T163_.setTop (mkF mM 227 #[.val (.int p1), .val (.int p2), .val (.int p3), .val (.int p4), .val (.int (5 : Int32)), .val (.ref b1_), .val (.ref b135_), .val (.int vq), .val (.ref b_163_), .unset, .unset] [(.ref b_163_)])) (fun tT kK => ?_) ?_
    · show Steps pP.tables eE below (T163_.setTop (mkF mM 218 #[.val (.int p1), .val (.int p2), .val (.int p3), .val (.int p4), .val (.int (5 : Int32)), .val (.ref b1_), .val (.ref b135_), .val (.int vq), .unset, .unset, .unset] [(.ref b_163_)])) tT
      refine XS.astore X163_.here hx rfl (Jvm.hb hby at_218) rfl rfl (l' := #[.val (.int p1), .val (.int p2), .val (.int p3), .val (.int p4), .val (.int (5 : Int32)), .val (.ref b1_), .val (.ref b135_), .val (.int vq), .val (.ref b_163_), .unset, .unset]) rfl ?_
      show Steps pP.tables eE below (T163_.setTop (mkF mM 220 #[.val (.int p1), .val (.int p2), .val (.int p3), .val (.int p4), .val (.int (5 : Int32)), .val (.ref b1_), .val (.ref b135_), .val (.int vq), .val (.ref b_163_), .unset, .unset] [])) tT
      refine XS.aload X163_.here hx rfl (Jvm.hb hby at_220) rfl rfl ?_
      show Steps pP.tables eE below (T163_.setTop (mkF mM 222 #[.val (.int p1), .val (.int p2), .val (.int p3), .val (.int p4), .val (.int (5 : Int32)), .val (.ref b1_), .val (.ref b135_), .val (.int vq), .val (.ref b_163_), .unset, .unset] [(.ref b_163_)])) tT
      refine XS.ifnullNo X163_.here hx rfl (Jvm.hb hby at_222) rfl ?_
      show Steps pP.tables eE below (T163_.setTop (mkF mM 225 #[.val (.int p1), .val (.int p2), .val (.int p3), .val (.int p4), .val (.int (5 : Int32)), .val (.ref b1_), .val (.ref b135_), .val (.int vq), .val (.ref b_163_), .unset, .unset] [])) tT
      refine XS.aload X163_.here hx rfl (Jvm.hb hby at_225) rfl rfl ?_
      show Steps pP.tables eE below (T163_.setTop (mkF mM 227 #[.val (.int p1), .val (.int p2), .val (.int p3), .val (.int p4), .val (.int (5 : Int32)), .val (.ref b1_), .val (.ref b135_), .val (.int vq), .val (.ref b_163_), .unset, .unset] [(.ref b_163_)])) tT
      exact kK
    obtain ⟨cl168_, Ar168_, Sz168_, Nn168_, -⟩ := id p163__2
    refine own_fin (b := T163_.setTop (mkF mM 240 #[.val (.int p1), .val (.int p2), .val (.int p3), .val (.int p4), .val (.int (5 : Int32)), .val (.ref b1_), .val (.ref b135_), .val (.int vq), .val (.ref b_163_), .unset, .unset] [(.int vq), (.ref b_163_)])) (fun tT kK => ?_) ?_
    · show Steps pP.tables eE below (T163_.setTop (mkF mM 227 #[.val (.int p1), .val (.int p2), .val (.int p3), .val (.int p4), .val (.int (5 : Int32)), .val (.ref b1_), .val (.ref b135_), .val (.int vq), .val (.ref b_163_), .unset, .unset] [(.ref b_163_)])) tT
      refine X163_.arraylength hx (own_rw rfl Ar168_.1) (State.isArrayOf_alike hZ.alike Ar168_.2.1) (g := (mkF mM 227 #[.val (.int p1), .val (.int p2), .val (.int p3), .val (.int p4), .val (.int (5 : Int32)), .val (.ref b1_), .val (.ref b135_), .val (.int vq), .val (.ref b_163_), .unset, .unset] [(.ref b_163_)])) rfl rfl (Jvm.hb hby at_227) _ ?_
      rw [len_of Sz168_ Nn168_]
      show Steps pP.tables eE below (T163_.setTop (mkF mM 228 #[.val (.int p1), .val (.int p2), .val (.int p3), .val (.int p4), .val (.int (5 : Int32)), .val (.ref b1_), .val (.ref b135_), .val (.int vq), .val (.ref b_163_), .unset, .unset] [(.int (256 : Int32))])) tT
      refine XS.sipush X163_.here hx rfl (Jvm.hb hby at_228) ?_
      show Steps pP.tables eE below (T163_.setTop (mkF mM 231 #[.val (.int p1), .val (.int p2), .val (.int p3), .val (.int p4), .val (.int (5 : Int32)), .val (.ref b1_), .val (.ref b135_), .val (.int vq), .val (.ref b_163_), .unset, .unset] [(.int (256 : Int32)), (.int (256 : Int32))])) tT
      refine XS.icmpYes X163_.here hx rfl (pc0 := 231) (pc' := 236) rfl (Jvm.hb hby at_231) rfl (teq ((by decide) : (256 : Int32) = (256 : Int32))).1 (by decide) (by decide) ?_
      show Steps pP.tables eE below (T163_.setTop (mkF mM 236 #[.val (.int p1), .val (.int p2), .val (.int p3), .val (.int p4), .val (.int (5 : Int32)), .val (.ref b1_), .val (.ref b135_), .val (.int vq), .val (.ref b_163_), .unset, .unset] [])) tT
      refine XS.aload X163_.here hx rfl (Jvm.hb hby at_236) rfl rfl ?_
      show Steps pP.tables eE below (T163_.setTop (mkF mM 238 #[.val (.int p1), .val (.int p2), .val (.int p3), .val (.int p4), .val (.int (5 : Int32)), .val (.ref b1_), .val (.ref b135_), .val (.int vq), .val (.ref b_163_), .unset, .unset] [(.ref b_163_)])) tT
      refine XS.iload X163_.here hx rfl (Jvm.hb hby at_238) rfl ?_
      show Steps pP.tables eE below (T163_.setTop (mkF mM 240 #[.val (.int p1), .val (.int p2), .val (.int p3), .val (.int p4), .val (.int (5 : Int32)), .val (.ref b1_), .val (.ref b135_), .val (.int vq), .val (.ref b_163_), .unset, .unset] [(.int vq), (.ref b_163_)])) tT
      exact kK
    obtain ⟨cl169_, Ar169_, Sz169_, Nn169_, Hh169_⟩ := id p163__2
    have hin169_ : ¬ (vq < 0 ∨ cl169_.slots.size ≤ (vq).toNatClampNeg) := inb_of Sz169_ hq
    have hat169_ : cl169_.slots[(vq).toNatClampNeg]? = some (.int ((own_ft ([x0, x1, x2, x3, x4] : List Int32) (5 : Int32).toNatClampNeg) vq)) := Hh169_ _ hin169_
    refine own_fin (b := T163_.setTop (mkF mM 247 #[.val (.int p1), .val (.int p2), .val (.int p3), .val (.int p4), .val (.int (5 : Int32)), .val (.ref b1_), .val (.ref b135_), .val (.int vq), .val (.ref b_163_), .unset, .unset] [(.int vq), (.int (5 : Int32)), (.ref b1_), (.int ((own_ft ([x0, x1, x2, x3, x4] : List Int32) (5 : Int32).toNatClampNeg) vq))])) (fun tT kK => ?_) ?_
    · show Steps pP.tables eE below (T163_.setTop (mkF mM 240 #[.val (.int p1), .val (.int p2), .val (.int p3), .val (.int p4), .val (.int (5 : Int32)), .val (.ref b1_), .val (.ref b135_), .val (.int vq), .val (.ref b_163_), .unset, .unset] [(.int vq), (.ref b_163_)])) tT
      refine X163_.iaload hx (j := vq) (v := (.int ((own_ft ([x0, x1, x2, x3, x4] : List Int32) (5 : Int32).toNatClampNeg) vq))) (own_rw rfl Ar169_.1) (State.isArrayOf_alike hZ.alike Ar169_.2.1) Ar169_.2.2 hin169_ hat169_ (g := (mkF mM 240 #[.val (.int p1), .val (.int p2), .val (.int p3), .val (.int p4), .val (.int (5 : Int32)), .val (.ref b1_), .val (.ref b135_), .val (.int vq), .val (.ref b_163_), .unset, .unset] [(.int vq), (.ref b_163_)])) rfl rfl (Jvm.hb hby at_240) _ ?_
      show Steps pP.tables eE below (T163_.setTop (mkF mM 241 #[.val (.int p1), .val (.int p2), .val (.int p3), .val (.int p4), .val (.int (5 : Int32)), .val (.ref b1_), .val (.ref b135_), .val (.int vq), .val (.ref b_163_), .unset, .unset] [(.int ((own_ft ([x0, x1, x2, x3, x4] : List Int32) (5 : Int32).toNatClampNeg) vq))])) tT
      refine XS.aload X163_.here hx rfl (Jvm.hb hby at_241) rfl rfl ?_
      show Steps pP.tables eE below (T163_.setTop (mkF mM 243 #[.val (.int p1), .val (.int p2), .val (.int p3), .val (.int p4), .val (.int (5 : Int32)), .val (.ref b1_), .val (.ref b135_), .val (.int vq), .val (.ref b_163_), .unset, .unset] [(.ref b1_), (.int ((own_ft ([x0, x1, x2, x3, x4] : List Int32) (5 : Int32).toNatClampNeg) vq))])) tT
      refine XS.iload X163_.here hx rfl (Jvm.hb hby at_243) rfl ?_
      show Steps pP.tables eE below (T163_.setTop (mkF mM 245 #[.val (.int p1), .val (.int p2), .val (.int p3), .val (.int p4), .val (.int (5 : Int32)), .val (.ref b1_), .val (.ref b135_), .val (.int vq), .val (.ref b_163_), .unset, .unset] [(.int (5 : Int32)), (.ref b1_), (.int ((own_ft ([x0, x1, x2, x3, x4] : List Int32) (5 : Int32).toNatClampNeg) vq))])) tT
      refine XS.iload X163_.here hx rfl (Jvm.hb hby at_245) rfl ?_
      show Steps pP.tables eE below (T163_.setTop (mkF mM 247 #[.val (.int p1), .val (.int p2), .val (.int p3), .val (.int p4), .val (.int (5 : Int32)), .val (.ref b1_), .val (.ref b135_), .val (.int vq), .val (.ref b_163_), .unset, .unset] [(.int vq), (.int (5 : Int32)), (.ref b1_), (.int ((own_ft ([x0, x1, x2, x3, x4] : List Int32) (5 : Int32).toNatClampNeg) vq))])) tT
      exact kK
    obtain ⟨_, _, ⟨T170_, L170_, k170_, n170_⟩, -, X170_, ⟨Lc170_, hQ170_, l170_, y170_, z170_⟩, st170_⟩ := Jvm.LawKit.callS X163_ hx (y := (⟨"com/example/needlework/needlework/BoyerMooreRightmostPinLaw", "ref", "([BII)I"⟩ : MethodName)) hown (mvT hZ (hw _ (List.mem_of_getElem? (i := 10) rfl))) (mvT hZ (hw _ (List.mem_of_getElem? (i := 11) rfl))) (mvT hZ (hw _ (List.mem_of_getElem? (i := 12) rfl))) (mvT hZ (hw _ (List.mem_of_getElem? (i := 13) rfl))) (by decide) (backOf (W := 1) (rm_ref lL Z a0 hw [] b1_ k1_ (5 : Int32) vq x0 x1 x2 x3 x4 x5 x6 x7 T163_.heap n0 (Nat.le_trans Z0 K163_.1) fc166_) hZ (hw _ (List.mem_of_getElem? (i := 13) rfl)) (hw _ (List.mem_of_getElem? (i := 12) rfl)) (by decide) (by decide)) (g := (mkF mM 247 #[.val (.int p1), .val (.int p2), .val (.int p3), .val (.int p4), .val (.int (5 : Int32)), .val (.ref b1_), .val (.ref b135_), .val (.int vq), .val (.ref b_163_), .unset, .unset] [(.int vq), (.int (5 : Int32)), (.ref b1_), (.int ((own_ft ([x0, x1, x2, x3, x4] : List Int32) (5 : Int32).toNatClampNeg) vq))])) rfl (by rw [hml]; rfl) (argsL := [(.ref b1_), (.int (5 : Int32)), (.int vq)]) (rest := [(.int ((own_ft ([x0, x1, x2, x3, x4] : List Int32) (5 : Int32).toNatClampNeg) vq))]) (lenOf own_pd2 rfl) rfl (by show 2 * 0 + _ ≤ _; exact Nat.le_of_eq rfl) (Jvm.hb hby at_247) (fun _ _ => ⟨rfl, rfl, (by decide : 3 + 0 ≤ _), (by decide : 269 + 0 ≤ _)⟩)
    dsimp only [Pt.U, Pt.locs, Pt.cells, Pt.slots] at X170_ l170_ y170_ z170_ st170_ hQ170_
    subst l170_ y170_ z170_
    obtain ⟨rfl, N170_q, p170__0⟩ := hQ170_
    have N170_ := Fr.app N163_ N170_q
    refine own_fin (fun tT kK => st170_ tT kK) ?_
    show own_Fin pP eE below _ (T170_.setTop (mkF mM 250 #[.val (.int p1), .val (.int p2), .val (.int p3), .val (.int p4), .val (.int (5 : Int32)), .val (.ref b1_), .val (.ref b135_), .val (.int vq), .val (.ref b_163_), .unset, .unset] [(.int (own_ref (5 : Int32) vq x0 x1 x2 x3 x4 x5 x6 x7)), (.int ((own_ft ([x0, x1, x2, x3, x4] : List Int32) (5 : Int32).toNatClampNeg) vq))]))
    refine own_fin (b := T170_.setTop (mkF mM 271 #[.val (.int p1), .val (.int p2), .val (.int p3), .val (.int p4), .val (.int (5 : Int32)), .val (.ref b1_), .val (.ref b135_), .val (.int vq), .val (.ref b_163_), .val (.int (1 : Int32)), .unset] [(.int (4 : Int32)), (.ref b1_)])) (fun tT kK => ?_) ?_
    · show Steps pP.tables eE below (T170_.setTop (mkF mM 250 #[.val (.int p1), .val (.int p2), .val (.int p3), .val (.int p4), .val (.int (5 : Int32)), .val (.ref b1_), .val (.ref b135_), .val (.int vq), .val (.ref b_163_), .unset, .unset] [(.int (own_ref (5 : Int32) vq x0 x1 x2 x3 x4 x5 x6 x7)), (.int ((own_ft ([x0, x1, x2, x3, x4] : List Int32) (5 : Int32).toNatClampNeg) vq))])) tT
      refine XS.icmpNo X170_.here hx rfl (Jvm.hb hby at_250) rfl (teq (own_e5 vq x0 x1 x2 x3 x4 x5 x6 x7 : ((own_ft ([x0, x1, x2, x3, x4] : List Int32) (5 : Int32).toNatClampNeg) vq) = (own_ref (5 : Int32) vq x0 x1 x2 x3 x4 x5 x6 x7))).2 ?_
      show Steps pP.tables eE below (T170_.setTop (mkF mM 253 #[.val (.int p1), .val (.int p2), .val (.int p3), .val (.int p4), .val (.int (5 : Int32)), .val (.ref b1_), .val (.ref b135_), .val (.int vq), .val (.ref b_163_), .unset, .unset] [])) tT
      refine XS.iconst X170_.here hx rfl (Jvm.hb hby at_253) ?_
      show Steps pP.tables eE below (T170_.setTop (mkF mM 254 #[.val (.int p1), .val (.int p2), .val (.int p3), .val (.int p4), .val (.int (5 : Int32)), .val (.ref b1_), .val (.ref b135_), .val (.int vq), .val (.ref b_163_), .unset, .unset] [(.int (1 : Int32))])) tT
      refine XS.goto X170_.here hx rfl (pc0 := 254) (pc' := 258) rfl (Jvm.hb hby at_254) (by decide) (by decide) ?_
      show Steps pP.tables eE below (T170_.setTop (mkF mM 258 #[.val (.int p1), .val (.int p2), .val (.int p3), .val (.int p4), .val (.int (5 : Int32)), .val (.ref b1_), .val (.ref b135_), .val (.int vq), .val (.ref b_163_), .unset, .unset] [(.int (1 : Int32))])) tT
      refine XS.istore X170_.here hx rfl (Jvm.hb hby at_258) rfl (l' := #[.val (.int p1), .val (.int p2), .val (.int p3), .val (.int p4), .val (.int (5 : Int32)), .val (.ref b1_), .val (.ref b135_), .val (.int vq), .val (.ref b_163_), .val (.int (1 : Int32)), .unset]) rfl ?_
      show Steps pP.tables eE below (T170_.setTop (mkF mM 260 #[.val (.int p1), .val (.int p2), .val (.int p3), .val (.int p4), .val (.int (5 : Int32)), .val (.ref b1_), .val (.ref b135_), .val (.int vq), .val (.ref b_163_), .val (.int (1 : Int32)), .unset] [])) tT
      refine XS.iload X170_.here hx rfl (Jvm.hb hby at_260) rfl ?_
      show Steps pP.tables eE below (T170_.setTop (mkF mM 262 #[.val (.int p1), .val (.int p2), .val (.int p3), .val (.int p4), .val (.int (5 : Int32)), .val (.ref b1_), .val (.ref b135_), .val (.int vq), .val (.ref b_163_), .val (.int (1 : Int32)), .unset] [(.int (5 : Int32))])) tT
      refine XS.ifNo X170_.here hx rfl (Jvm.hb hby at_262) rfl ((if0 _ _).trans (tlt ((by decide) : (0 : Int32) < (5 : Int32))).2.2.2) ?_
      show Steps pP.tables eE below (T170_.setTop (mkF mM 265 #[.val (.int p1), .val (.int p2), .val (.int p3), .val (.int p4), .val (.int (5 : Int32)), .val (.ref b1_), .val (.ref b135_), .val (.int vq), .val (.ref b_163_), .val (.int (1 : Int32)), .unset] [])) tT
      refine XS.aload X170_.here hx rfl (Jvm.hb hby at_265) rfl rfl ?_
      show Steps pP.tables eE below (T170_.setTop (mkF mM 267 #[.val (.int p1), .val (.int p2), .val (.int p3), .val (.int p4), .val (.int (5 : Int32)), .val (.ref b1_), .val (.ref b135_), .val (.int vq), .val (.ref b_163_), .val (.int (1 : Int32)), .unset] [(.ref b1_)])) tT
      refine XS.iload X170_.here hx rfl (Jvm.hb hby at_267) rfl ?_
      show Steps pP.tables eE below (T170_.setTop (mkF mM 269 #[.val (.int p1), .val (.int p2), .val (.int p3), .val (.int p4), .val (.int (5 : Int32)), .val (.ref b1_), .val (.ref b135_), .val (.int vq), .val (.ref b_163_), .val (.int (1 : Int32)), .unset] [(.int (5 : Int32)), (.ref b1_)])) tT
      refine XS.iconst X170_.here hx rfl (Jvm.hb hby at_269) ?_
      show Steps pP.tables eE below (T170_.setTop (mkF mM 270 #[.val (.int p1), .val (.int p2), .val (.int p3), .val (.int p4), .val (.int (5 : Int32)), .val (.ref b1_), .val (.ref b135_), .val (.int vq), .val (.ref b_163_), .val (.int (1 : Int32)), .unset] [(.int (1 : Int32)), (.int (5 : Int32)), (.ref b1_)])) tT
      refine XS.isub X170_.here hx rfl (Jvm.hb hby at_270) rfl ?_
      show Steps pP.tables eE below (T170_.setTop (mkF mM 271 #[.val (.int p1), .val (.int p2), .val (.int p3), .val (.int p4), .val (.int (5 : Int32)), .val (.ref b1_), .val (.ref b135_), .val (.int vq), .val (.ref b_163_), .val (.int (1 : Int32)), .unset] [(.int (4 : Int32)), (.ref b1_)])) tT
      exact kK
    obtain ⟨cl171_, Ar171_, qk171_, Sz171_, Nn171_, Hh171_, Gg171_⟩ := id fc166_
    have hin172_ : ¬ ((4 : Int32) < 0 ∨ cl171_.slots.size ≤ ((4 : Int32)).toNatClampNeg) := inb_of Sz171_ ⟨by decide, by decide⟩
    have hat172_ : cl171_.slots[((4 : Int32)).toNatClampNeg]? = some (.int x4) := Hh171_.at hin172_ rfl
    refine own_fin (b := T170_.setTop (mkF mM 287 #[.val (.int p1), .val (.int p2), .val (.int p3), .val (.int p4), .val (.int (5 : Int32)), .val (.ref b1_), .val (.ref b135_), .val (.int vq), .val (.ref b_163_), .val (.int (1 : Int32)), .val (.int (x4 &&& (255 : Int32)))] [(.int (x4 &&& (255 : Int32))), (.ref b_163_)])) (fun tT kK => ?_) ?_
    · show Steps pP.tables eE below (T170_.setTop (mkF mM 271 #[.val (.int p1), .val (.int p2), .val (.int p3), .val (.int p4), .val (.int (5 : Int32)), .val (.ref b1_), .val (.ref b135_), .val (.int vq), .val (.ref b_163_), .val (.int (1 : Int32)), .unset] [(.int (4 : Int32)), (.ref b1_)])) tT
      refine X170_.baloadBytes hx (j := (4 : Int32)) (v := (.int x4)) (own_rw p170__0 Ar171_.1) (State.isArrayOf_alike hZ.alike Ar171_.2.1) Ar171_.2.2 hin172_ hat172_ (g := (mkF mM 271 #[.val (.int p1), .val (.int p2), .val (.int p3), .val (.int p4), .val (.int (5 : Int32)), .val (.ref b1_), .val (.ref b135_), .val (.int vq), .val (.ref b_163_), .val (.int (1 : Int32)), .unset] [(.int (4 : Int32)), (.ref b1_)])) rfl rfl (Jvm.hb hby at_271) _ ?_
      show Steps pP.tables eE below (T170_.setTop (mkF mM 272 #[.val (.int p1), .val (.int p2), .val (.int p3), .val (.int p4), .val (.int (5 : Int32)), .val (.ref b1_), .val (.ref b135_), .val (.int vq), .val (.ref b_163_), .val (.int (1 : Int32)), .unset] [(.int x4)])) tT
      refine XS.sipush X170_.here hx rfl (Jvm.hb hby at_272) ?_
      show Steps pP.tables eE below (T170_.setTop (mkF mM 275 #[.val (.int p1), .val (.int p2), .val (.int p3), .val (.int p4), .val (.int (5 : Int32)), .val (.ref b1_), .val (.ref b135_), .val (.int vq), .val (.ref b_163_), .val (.int (1 : Int32)), .unset] [(.int (255 : Int32)), (.int x4)])) tT
      refine XS.iand X170_.here hx rfl (Jvm.hb hby at_275) rfl ?_
      show Steps pP.tables eE below (T170_.setTop (mkF mM 276 #[.val (.int p1), .val (.int p2), .val (.int p3), .val (.int p4), .val (.int (5 : Int32)), .val (.ref b1_), .val (.ref b135_), .val (.int vq), .val (.ref b_163_), .val (.int (1 : Int32)), .unset] [(.int (x4 &&& (255 : Int32)))])) tT
      refine XS.istore X170_.here hx rfl (Jvm.hb hby at_276) rfl (l' := #[.val (.int p1), .val (.int p2), .val (.int p3), .val (.int p4), .val (.int (5 : Int32)), .val (.ref b1_), .val (.ref b135_), .val (.int vq), .val (.ref b_163_), .val (.int (1 : Int32)), .val (.int (x4 &&& (255 : Int32)))]) rfl ?_
      show Steps pP.tables eE below (T170_.setTop (mkF mM 278 #[.val (.int p1), .val (.int p2), .val (.int p3), .val (.int p4), .val (.int (5 : Int32)), .val (.ref b1_), .val (.ref b135_), .val (.int vq), .val (.ref b_163_), .val (.int (1 : Int32)), .val (.int (x4 &&& (255 : Int32)))] [])) tT
      refine XS.iload X170_.here hx rfl (Jvm.hb hby at_278) rfl ?_
      show Steps pP.tables eE below (T170_.setTop (mkF mM 280 #[.val (.int p1), .val (.int p2), .val (.int p3), .val (.int p4), .val (.int (5 : Int32)), .val (.ref b1_), .val (.ref b135_), .val (.int vq), .val (.ref b_163_), .val (.int (1 : Int32)), .val (.int (x4 &&& (255 : Int32)))] [(.int (1 : Int32))])) tT
      refine XS.ifNo X170_.here hx rfl (Jvm.hb hby at_280) rfl ((if0 _ _).trans (feq ((by decide) : ¬ ((1 : Int32) = (0 : Int32)))).1) ?_
      show Steps pP.tables eE below (T170_.setTop (mkF mM 283 #[.val (.int p1), .val (.int p2), .val (.int p3), .val (.int p4), .val (.int (5 : Int32)), .val (.ref b1_), .val (.ref b135_), .val (.int vq), .val (.ref b_163_), .val (.int (1 : Int32)), .val (.int (x4 &&& (255 : Int32)))] [])) tT
      refine XS.aload X170_.here hx rfl (Jvm.hb hby at_283) rfl rfl ?_
      show Steps pP.tables eE below (T170_.setTop (mkF mM 285 #[.val (.int p1), .val (.int p2), .val (.int p3), .val (.int p4), .val (.int (5 : Int32)), .val (.ref b1_), .val (.ref b135_), .val (.int vq), .val (.ref b_163_), .val (.int (1 : Int32)), .val (.int (x4 &&& (255 : Int32)))] [(.ref b_163_)])) tT
      refine XS.iload X170_.here hx rfl (Jvm.hb hby at_285) rfl ?_
      show Steps pP.tables eE below (T170_.setTop (mkF mM 287 #[.val (.int p1), .val (.int p2), .val (.int p3), .val (.int p4), .val (.int (5 : Int32)), .val (.ref b1_), .val (.ref b135_), .val (.int vq), .val (.ref b_163_), .val (.int (1 : Int32)), .val (.int (x4 &&& (255 : Int32)))] [(.int (x4 &&& (255 : Int32))), (.ref b_163_)])) tT
      exact kK
    obtain ⟨cl173_, Ar173_, Sz173_, Nn173_, Hh173_⟩ := id p163__2
    have hin173_ : ¬ ((x4 &&& (255 : Int32)) < 0 ∨ cl173_.slots.size ≤ ((x4 &&& (255 : Int32))).toNatClampNeg) := inb_of Sz173_ (own_m255 x4)
    have hat173_ : cl173_.slots[((x4 &&& (255 : Int32))).toNatClampNeg]? = some (.int ((own_ft ([x0, x1, x2, x3, x4] : List Int32) (5 : Int32).toNatClampNeg) (x4 &&& (255 : Int32)))) := Hh173_ _ hin173_
    refine own_fin (b := T170_.setTop (mkF mM 304 #[.val (.int p1), .val (.int p2), .val (.int p3), .val (.int p4), .val (.int (5 : Int32)), .val (.ref b1_), .val (.ref b135_), .val (.int vq), .val (.ref b_163_), .val (.int (1 : Int32)), .val (.int (x4 &&& (255 : Int32)))] [(.int (1 : Int32))])) (fun tT kK => ?_) ?_
    · show Steps pP.tables eE below (T170_.setTop (mkF mM 287 #[.val (.int p1), .val (.int p2), .val (.int p3), .val (.int p4), .val (.int (5 : Int32)), .val (.ref b1_), .val (.ref b135_), .val (.int vq), .val (.ref b_163_), .val (.int (1 : Int32)), .val (.int (x4 &&& (255 : Int32)))] [(.int (x4 &&& (255 : Int32))), (.ref b_163_)])) tT
      refine X170_.iaload hx (j := (x4 &&& (255 : Int32))) (v := (.int ((own_ft ([x0, x1, x2, x3, x4] : List Int32) (5 : Int32).toNatClampNeg) (x4 &&& (255 : Int32))))) (own_rw p170__0 Ar173_.1) (State.isArrayOf_alike hZ.alike Ar173_.2.1) Ar173_.2.2 hin173_ hat173_ (g := (mkF mM 287 #[.val (.int p1), .val (.int p2), .val (.int p3), .val (.int p4), .val (.int (5 : Int32)), .val (.ref b1_), .val (.ref b135_), .val (.int vq), .val (.ref b_163_), .val (.int (1 : Int32)), .val (.int (x4 &&& (255 : Int32)))] [(.int (x4 &&& (255 : Int32))), (.ref b_163_)])) rfl rfl (Jvm.hb hby at_287) _ ?_
      show Steps pP.tables eE below (T170_.setTop (mkF mM 288 #[.val (.int p1), .val (.int p2), .val (.int p3), .val (.int p4), .val (.int (5 : Int32)), .val (.ref b1_), .val (.ref b135_), .val (.int vq), .val (.ref b_163_), .val (.int (1 : Int32)), .val (.int (x4 &&& (255 : Int32)))] [(.int ((own_ft ([x0, x1, x2, x3, x4] : List Int32) (5 : Int32).toNatClampNeg) (x4 &&& (255 : Int32))))])) tT
      refine XS.iload X170_.here hx rfl (Jvm.hb hby at_288) rfl ?_
      show Steps pP.tables eE below (T170_.setTop (mkF mM 290 #[.val (.int p1), .val (.int p2), .val (.int p3), .val (.int p4), .val (.int (5 : Int32)), .val (.ref b1_), .val (.ref b135_), .val (.int vq), .val (.ref b_163_), .val (.int (1 : Int32)), .val (.int (x4 &&& (255 : Int32)))] [(.int (5 : Int32)), (.int ((own_ft ([x0, x1, x2, x3, x4] : List Int32) (5 : Int32).toNatClampNeg) (x4 &&& (255 : Int32))))])) tT
      refine XS.iconst X170_.here hx rfl (Jvm.hb hby at_290) ?_
      show Steps pP.tables eE below (T170_.setTop (mkF mM 291 #[.val (.int p1), .val (.int p2), .val (.int p3), .val (.int p4), .val (.int (5 : Int32)), .val (.ref b1_), .val (.ref b135_), .val (.int vq), .val (.ref b_163_), .val (.int (1 : Int32)), .val (.int (x4 &&& (255 : Int32)))] [(.int (1 : Int32)), (.int (5 : Int32)), (.int ((own_ft ([x0, x1, x2, x3, x4] : List Int32) (5 : Int32).toNatClampNeg) (x4 &&& (255 : Int32))))])) tT
      refine XS.isub X170_.here hx rfl (Jvm.hb hby at_291) rfl ?_
      show Steps pP.tables eE below (T170_.setTop (mkF mM 292 #[.val (.int p1), .val (.int p2), .val (.int p3), .val (.int p4), .val (.int (5 : Int32)), .val (.ref b1_), .val (.ref b135_), .val (.int vq), .val (.ref b_163_), .val (.int (1 : Int32)), .val (.int (x4 &&& (255 : Int32)))] [(.int (4 : Int32)), (.int ((own_ft ([x0, x1, x2, x3, x4] : List Int32) (5 : Int32).toNatClampNeg) (x4 &&& (255 : Int32))))])) tT
      refine XS.icmpNo X170_.here hx rfl (Jvm.hb hby at_292) rfl (teq (own_last ([x0, x1, x2, x3, x4] : List Int32) 4 : ((own_ft ([x0, x1, x2, x3, x4] : List Int32) (5 : Int32).toNatClampNeg) (x4 &&& (255 : Int32))) = (4 : Int32))).2 ?_
      show Steps pP.tables eE below (T170_.setTop (mkF mM 295 #[.val (.int p1), .val (.int p2), .val (.int p3), .val (.int p4), .val (.int (5 : Int32)), .val (.ref b1_), .val (.ref b135_), .val (.int vq), .val (.ref b_163_), .val (.int (1 : Int32)), .val (.int (x4 &&& (255 : Int32)))] [])) tT
      refine XS.iconst X170_.here hx rfl (Jvm.hb hby at_295) ?_
      show Steps pP.tables eE below (T170_.setTop (mkF mM 296 #[.val (.int p1), .val (.int p2), .val (.int p3), .val (.int p4), .val (.int (5 : Int32)), .val (.ref b1_), .val (.ref b135_), .val (.int vq), .val (.ref b_163_), .val (.int (1 : Int32)), .val (.int (x4 &&& (255 : Int32)))] [(.int (1 : Int32))])) tT
      refine XS.goto X170_.here hx rfl (pc0 := 296) (pc' := 300) rfl (Jvm.hb hby at_296) (by decide) (by decide) ?_
      show Steps pP.tables eE below (T170_.setTop (mkF mM 300 #[.val (.int p1), .val (.int p2), .val (.int p3), .val (.int p4), .val (.int (5 : Int32)), .val (.ref b1_), .val (.ref b135_), .val (.int vq), .val (.ref b_163_), .val (.int (1 : Int32)), .val (.int (x4 &&& (255 : Int32)))] [(.int (1 : Int32))])) tT
      refine XS.istore X170_.here hx rfl (Jvm.hb hby at_300) rfl (l' := #[.val (.int p1), .val (.int p2), .val (.int p3), .val (.int p4), .val (.int (5 : Int32)), .val (.ref b1_), .val (.ref b135_), .val (.int vq), .val (.ref b_163_), .val (.int (1 : Int32)), .val (.int (x4 &&& (255 : Int32)))]) rfl ?_
      show Steps pP.tables eE below (T170_.setTop (mkF mM 302 #[.val (.int p1), .val (.int p2), .val (.int p3), .val (.int p4), .val (.int (5 : Int32)), .val (.ref b1_), .val (.ref b135_), .val (.int vq), .val (.ref b_163_), .val (.int (1 : Int32)), .val (.int (x4 &&& (255 : Int32)))] [])) tT
      refine XS.iload X170_.here hx rfl (Jvm.hb hby at_302) rfl ?_
      show Steps pP.tables eE below (T170_.setTop (mkF mM 304 #[.val (.int p1), .val (.int p2), .val (.int p3), .val (.int p4), .val (.int (5 : Int32)), .val (.ref b1_), .val (.ref b135_), .val (.int vq), .val (.ref b_163_), .val (.int (1 : Int32)), .val (.int (x4 &&& (255 : Int32)))] [(.int (1 : Int32))])) tT
      exact kK
    obtain ⟨fs, hr, hrun, hended, hW, hsame⟩ := X170_.leave (v := some (.int (1 : Int32))) (fun h => by rw [Bd.returns] at h; cases h)
    refine ⟨_, _, ?_, hrun, hended, _, _, rfl, ?_, ⟨_, rfl⟩, hW, hsame.mono (by decide) (by decide)⟩
    · show Steps pP.tables eE below (T170_.setTop (mkF mM 304 #[.val (.int p1), .val (.int p2), .val (.int p3), .val (.int p4), .val (.int (5 : Int32)), .val (.ref b1_), .val (.ref b135_), .val (.int vq), .val (.ref b_163_), .val (.int (1 : Int32)), .val (.int (x4 &&& (255 : Int32)))] [(.int (1 : Int32))])) _
      exact retN X170_ hx (t := .boolean) Bd.returns (by simp) (Jvm.hb hby at_304) hr
    · show Q_rm0 Z p1 p2 p3 p4 h0 n0 _ T170_.heap _
      rw [p170__0]
      exact ⟨rfl, N170_⟩
  · show own_Fin pP eE below _ (T17_.setTop (mkF mM 83 #[.val (.int p1), .val (.int p2), .val (.int p3), .val (.int p4), .val (.int (6 : Int32)), .val (.ref b1_), .unset, .unset, .unset, .unset, .unset] []))
    refine own_fin (b := T17_.setTop (mkF mM 85 #[.val (.int p1), .val (.int p2), .val (.int p3), .val (.int p4), .val (.int (6 : Int32)), .val (.ref b1_), .unset, .unset, .unset, .unset, .unset] [(.int (6 : Int32))])) (fun tT kK => ?_) ?_
    · show Steps pP.tables eE below (T17_.setTop (mkF mM 83 #[.val (.int p1), .val (.int p2), .val (.int p3), .val (.int p4), .val (.int (6 : Int32)), .val (.ref b1_), .unset, .unset, .unset, .unset, .unset] [])) tT
      refine XS.iload X17_.here hx rfl (Jvm.hb hby at_83) rfl ?_
      show Steps pP.tables eE below (T17_.setTop (mkF mM 85 #[.val (.int p1), .val (.int p2), .val (.int p3), .val (.int p4), .val (.int (6 : Int32)), .val (.ref b1_), .unset, .unset, .unset, .unset, .unset] [(.int (6 : Int32))])) tT
      exact kK
    obtain ⟨T174_, h174_, k174_, X174_, e174_, E174_, A174_, st174_⟩ := newP X17_ hx hZ (hw _ (List.mem_of_getElem? (i := 0) rfl)) e17_ (g := (mkF mM 85 #[.val (.int p1), .val (.int p2), .val (.int p3), .val (.int p4), .val (.int (6 : Int32)), .val (.ref b1_), .unset, .unset, .unset, .unset, .unset] [(.int (6 : Int32))])) rfl (Jvm.hb hby at_85) rfl (by decide) (cap := 6) (by decide) (by decide) (by decide) (by decide)
    obtain ⟨b174_, g174_⟩ : ∃ z, z = h17_.size := ⟨_, rfl⟩
    rw [← g174_] at A174_ st174_
    have sz_b174_ : h0.size ≤ b174_ := Nat.le_trans K17_.1 (Nat.le_of_eq g174_.symm)
    have ge_b174_ : n0 ≤ b174_ := Nat.le_trans Z0 sz_b174_
    have ne175_ : b1_ ≠ b174_ := Nat.ne_of_lt (Nat.lt_of_lt_of_le V17_.lt (Nat.le_of_eq g174_.symm))
    have fc176_ := V17_.ext E174_
    have K174_ := K17_.ext E174_
    have V174_ : Arv Z h174_ b174_ k174_ .byte (6 : Int32) [(.int (0 : Int32)), (.int (0 : Int32)), (.int (0 : Int32)), (.int (0 : Int32)), (.int (0 : Int32)), (.int (0 : Int32))] (.int (0 : Int32)) := (Arv.new A174_ (by decide)).pad (pad_rep [] (.int (0 : Int32)) 6)
    refine own_fin st174_ ?_
    show own_Fin pP eE below _ (T174_.setTop (mkF mM 87 #[.val (.int p1), .val (.int p2), .val (.int p3), .val (.int p4), .val (.int (6 : Int32)), .val (.ref b1_), .unset, .unset, .unset, .unset, .unset] [(.ref b174_)]))
    refine own_fin (b := T174_.setTop (mkF mM 100 #[.val (.int p1), .val (.int p2), .val (.int p3), .val (.int p4), .val (.int (6 : Int32)), .val (.ref b1_), .val (.ref b174_), .unset, .unset, .unset, .unset] [(.int (0 : Int32)), (.ref b1_), (.int (0 : Int32)), (.ref b174_)])) (fun tT kK => ?_) ?_
    · show Steps pP.tables eE below (T174_.setTop (mkF mM 87 #[.val (.int p1), .val (.int p2), .val (.int p3), .val (.int p4), .val (.int (6 : Int32)), .val (.ref b1_), .unset, .unset, .unset, .unset, .unset] [(.ref b174_)])) tT
      refine XS.astore X174_.here hx rfl (Jvm.hb hby at_87) rfl rfl (l' := #[.val (.int p1), .val (.int p2), .val (.int p3), .val (.int p4), .val (.int (6 : Int32)), .val (.ref b1_), .val (.ref b174_), .unset, .unset, .unset, .unset]) rfl ?_
      show Steps pP.tables eE below (T174_.setTop (mkF mM 89 #[.val (.int p1), .val (.int p2), .val (.int p3), .val (.int p4), .val (.int (6 : Int32)), .val (.ref b1_), .val (.ref b174_), .unset, .unset, .unset, .unset] [])) tT
      refine XS.iload X174_.here hx rfl (Jvm.hb hby at_89) rfl ?_
      show Steps pP.tables eE below (T174_.setTop (mkF mM 91 #[.val (.int p1), .val (.int p2), .val (.int p3), .val (.int p4), .val (.int (6 : Int32)), .val (.ref b1_), .val (.ref b174_), .unset, .unset, .unset, .unset] [(.int (6 : Int32))])) tT
      refine XS.ifNo X174_.here hx rfl (Jvm.hb hby at_91) rfl ((if0 _ _).trans (tlt ((by decide) : (0 : Int32) < (6 : Int32))).2.2.2) ?_
      show Steps pP.tables eE below (T174_.setTop (mkF mM 94 #[.val (.int p1), .val (.int p2), .val (.int p3), .val (.int p4), .val (.int (6 : Int32)), .val (.ref b1_), .val (.ref b174_), .unset, .unset, .unset, .unset] [])) tT
      refine XS.aload X174_.here hx rfl (Jvm.hb hby at_94) rfl rfl ?_
      show Steps pP.tables eE below (T174_.setTop (mkF mM 96 #[.val (.int p1), .val (.int p2), .val (.int p3), .val (.int p4), .val (.int (6 : Int32)), .val (.ref b1_), .val (.ref b174_), .unset, .unset, .unset, .unset] [(.ref b174_)])) tT
      refine XS.iconst X174_.here hx rfl (Jvm.hb hby at_96) ?_
      show Steps pP.tables eE below (T174_.setTop (mkF mM 97 #[.val (.int p1), .val (.int p2), .val (.int p3), .val (.int p4), .val (.int (6 : Int32)), .val (.ref b1_), .val (.ref b174_), .unset, .unset, .unset, .unset] [(.int (0 : Int32)), (.ref b174_)])) tT
      refine XS.aload X174_.here hx rfl (Jvm.hb hby at_97) rfl rfl ?_
      show Steps pP.tables eE below (T174_.setTop (mkF mM 99 #[.val (.int p1), .val (.int p2), .val (.int p3), .val (.int p4), .val (.int (6 : Int32)), .val (.ref b1_), .val (.ref b174_), .unset, .unset, .unset, .unset] [(.ref b1_), (.int (0 : Int32)), (.ref b174_)])) tT
      refine XS.iconst X174_.here hx rfl (Jvm.hb hby at_99) ?_
      show Steps pP.tables eE below (T174_.setTop (mkF mM 100 #[.val (.int p1), .val (.int p2), .val (.int p3), .val (.int p4), .val (.int (6 : Int32)), .val (.ref b1_), .val (.ref b174_), .unset, .unset, .unset, .unset] [(.int (0 : Int32)), (.ref b1_), (.int (0 : Int32)), (.ref b174_)])) tT
      exact kK
    obtain ⟨cl177_, Ar177_, qk177_, Sz177_, Nn177_, Hh177_, Gg177_⟩ := id fc176_
    have hin178_ : ¬ ((0 : Int32) < 0 ∨ cl177_.slots.size ≤ ((0 : Int32)).toNatClampNeg) := inb_of Sz177_ ⟨by decide, by decide⟩
    have hat178_ : cl177_.slots[((0 : Int32)).toNatClampNeg]? = some (.int x0) := Hh177_.at hin178_ rfl
    refine own_fin (b := T174_.setTop (mkF mM 101 #[.val (.int p1), .val (.int p2), .val (.int p3), .val (.int p4), .val (.int (6 : Int32)), .val (.ref b1_), .val (.ref b174_), .unset, .unset, .unset, .unset] [(.int x0), (.int (0 : Int32)), (.ref b174_)])) (fun tT kK => ?_) ?_
    · show Steps pP.tables eE below (T174_.setTop (mkF mM 100 #[.val (.int p1), .val (.int p2), .val (.int p3), .val (.int p4), .val (.int (6 : Int32)), .val (.ref b1_), .val (.ref b174_), .unset, .unset, .unset, .unset] [(.int (0 : Int32)), (.ref b1_), (.int (0 : Int32)), (.ref b174_)])) tT
      refine X174_.baloadBytes hx (j := (0 : Int32)) (v := (.int x0)) (own_rw e174_ Ar177_.1) (State.isArrayOf_alike hZ.alike Ar177_.2.1) Ar177_.2.2 hin178_ hat178_ (g := (mkF mM 100 #[.val (.int p1), .val (.int p2), .val (.int p3), .val (.int p4), .val (.int (6 : Int32)), .val (.ref b1_), .val (.ref b174_), .unset, .unset, .unset, .unset] [(.int (0 : Int32)), (.ref b1_), (.int (0 : Int32)), (.ref b174_)])) rfl rfl (Jvm.hb hby at_100) _ ?_
      show Steps pP.tables eE below (T174_.setTop (mkF mM 101 #[.val (.int p1), .val (.int p2), .val (.int p3), .val (.int p4), .val (.int (6 : Int32)), .val (.ref b1_), .val (.ref b174_), .unset, .unset, .unset, .unset] [(.int x0), (.int (0 : Int32)), (.ref b174_)])) tT
      exact kK
    obtain ⟨cl179_, Ar179_, qk179_, Sz179_, Nn179_, Hh179_, Gg179_⟩ := id V174_
    have hin180_ : ¬ ((0 : Int32) < 0 ∨ cl179_.slots.size ≤ ((0 : Int32)).toNatClampNeg) := inb_of Sz179_ ⟨by decide, by decide⟩
    obtain ⟨T180_, h180_, X180_, e180_, W180_, st180_⟩ := stB X174_ hx hZ e174_ Ar179_ (j := (0 : Int32)) hin180_ (g := (mkF mM 101 #[.val (.int p1), .val (.int p2), .val (.int p3), .val (.int p4), .val (.int (6 : Int32)), .val (.ref b1_), .val (.ref b174_), .unset, .unset, .unset, .unset] [(.int x0), (.int (0 : Int32)), (.ref b174_)])) rfl rfl (Jvm.hb hby at_101)
    have V180_ : Arv Z h180_ b174_ k174_ .byte (6 : Int32) [(.int (nar .byte x0)), (.int (0 : Int32)), (.int (0 : Int32)), (.int (0 : Int32)), (.int (0 : Int32)), (.int (0 : Int32))] (.int (0 : Int32)) := Arv.set Ar179_ qk179_ Sz179_ Nn179_ Hh179_ Gg179_ (fits_nar_byte _) W180_ 0 rfl (Nat.le_of_ble_eq_true rfl)
    have fc181_ := fc176_.other W180_ ne175_
    have K180_ := K174_.wr W180_ (Or.inr sz_b174_)
    have N180_ := Fr.snoc X180_ N17_ ge_b174_
    refine own_fin st180_ ?_
    show own_Fin pP eE below _ (T180_.setTop (mkF mM 102 #[.val (.int p1), .val (.int p2), .val (.int p3), .val (.int p4), .val (.int (6 : Int32)), .val (.ref b1_), .val (.ref b174_), .unset, .unset, .unset, .unset] []))
    refine own_fin (b := T180_.setTop (mkF mM 114 #[.val (.int p1), .val (.int p2), .val (.int p3), .val (.int p4), .val (.int (6 : Int32)), .val (.ref b1_), .val (.ref b174_), .unset, .unset, .unset, .unset] [(.int (1 : Int32)), (.ref b1_), (.int (1 : Int32)), (.ref b174_)])) (fun tT kK => ?_) ?_
    · show Steps pP.tables eE below (T180_.setTop (mkF mM 102 #[.val (.int p1), .val (.int p2), .val (.int p3), .val (.int p4), .val (.int (6 : Int32)), .val (.ref b1_), .val (.ref b174_), .unset, .unset, .unset, .unset] [])) tT
      refine XS.iload X180_.here hx rfl (Jvm.hb hby at_102) rfl ?_
      show Steps pP.tables eE below (T180_.setTop (mkF mM 104 #[.val (.int p1), .val (.int p2), .val (.int p3), .val (.int p4), .val (.int (6 : Int32)), .val (.ref b1_), .val (.ref b174_), .unset, .unset, .unset, .unset] [(.int (6 : Int32))])) tT
      refine XS.iconst X180_.here hx rfl (Jvm.hb hby at_104) ?_
      show Steps pP.tables eE below (T180_.setTop (mkF mM 105 #[.val (.int p1), .val (.int p2), .val (.int p3), .val (.int p4), .val (.int (6 : Int32)), .val (.ref b1_), .val (.ref b174_), .unset, .unset, .unset, .unset] [(.int (1 : Int32)), (.int (6 : Int32))])) tT
      refine XS.icmpNo X180_.here hx rfl (Jvm.hb hby at_105) rfl (tlt ((by decide) : (1 : Int32) < (6 : Int32))).2.2.2 ?_
      show Steps pP.tables eE below (T180_.setTop (mkF mM 108 #[.val (.int p1), .val (.int p2), .val (.int p3), .val (.int p4), .val (.int (6 : Int32)), .val (.ref b1_), .val (.ref b174_), .unset, .unset, .unset, .unset] [])) tT
      refine XS.aload X180_.here hx rfl (Jvm.hb hby at_108) rfl rfl ?_
      show Steps pP.tables eE below (T180_.setTop (mkF mM 110 #[.val (.int p1), .val (.int p2), .val (.int p3), .val (.int p4), .val (.int (6 : Int32)), .val (.ref b1_), .val (.ref b174_), .unset, .unset, .unset, .unset] [(.ref b174_)])) tT
      refine XS.iconst X180_.here hx rfl (Jvm.hb hby at_110) ?_
      show Steps pP.tables eE below (T180_.setTop (mkF mM 111 #[.val (.int p1), .val (.int p2), .val (.int p3), .val (.int p4), .val (.int (6 : Int32)), .val (.ref b1_), .val (.ref b174_), .unset, .unset, .unset, .unset] [(.int (1 : Int32)), (.ref b174_)])) tT
      refine XS.aload X180_.here hx rfl (Jvm.hb hby at_111) rfl rfl ?_
      show Steps pP.tables eE below (T180_.setTop (mkF mM 113 #[.val (.int p1), .val (.int p2), .val (.int p3), .val (.int p4), .val (.int (6 : Int32)), .val (.ref b1_), .val (.ref b174_), .unset, .unset, .unset, .unset] [(.ref b1_), (.int (1 : Int32)), (.ref b174_)])) tT
      refine XS.iconst X180_.here hx rfl (Jvm.hb hby at_113) ?_
      show Steps pP.tables eE below (T180_.setTop (mkF mM 114 #[.val (.int p1), .val (.int p2), .val (.int p3), .val (.int p4), .val (.int (6 : Int32)), .val (.ref b1_), .val (.ref b174_), .unset, .unset, .unset, .unset] [(.int (1 : Int32)), (.ref b1_), (.int (1 : Int32)), (.ref b174_)])) tT
      exact kK
    obtain ⟨cl182_, Ar182_, qk182_, Sz182_, Nn182_, Hh182_, Gg182_⟩ := id fc181_
    have hin183_ : ¬ ((1 : Int32) < 0 ∨ cl182_.slots.size ≤ ((1 : Int32)).toNatClampNeg) := inb_of Sz182_ ⟨by decide, by decide⟩
    have hat183_ : cl182_.slots[((1 : Int32)).toNatClampNeg]? = some (.int x1) := Hh182_.at hin183_ rfl
    refine own_fin (b := T180_.setTop (mkF mM 115 #[.val (.int p1), .val (.int p2), .val (.int p3), .val (.int p4), .val (.int (6 : Int32)), .val (.ref b1_), .val (.ref b174_), .unset, .unset, .unset, .unset] [(.int x1), (.int (1 : Int32)), (.ref b174_)])) (fun tT kK => ?_) ?_
    · show Steps pP.tables eE below (T180_.setTop (mkF mM 114 #[.val (.int p1), .val (.int p2), .val (.int p3), .val (.int p4), .val (.int (6 : Int32)), .val (.ref b1_), .val (.ref b174_), .unset, .unset, .unset, .unset] [(.int (1 : Int32)), (.ref b1_), (.int (1 : Int32)), (.ref b174_)])) tT
      refine X180_.baloadBytes hx (j := (1 : Int32)) (v := (.int x1)) (own_rw e180_ Ar182_.1) (State.isArrayOf_alike hZ.alike Ar182_.2.1) Ar182_.2.2 hin183_ hat183_ (g := (mkF mM 114 #[.val (.int p1), .val (.int p2), .val (.int p3), .val (.int p4), .val (.int (6 : Int32)), .val (.ref b1_), .val (.ref b174_), .unset, .unset, .unset, .unset] [(.int (1 : Int32)), (.ref b1_), (.int (1 : Int32)), (.ref b174_)])) rfl rfl (Jvm.hb hby at_114) _ ?_
      show Steps pP.tables eE below (T180_.setTop (mkF mM 115 #[.val (.int p1), .val (.int p2), .val (.int p3), .val (.int p4), .val (.int (6 : Int32)), .val (.ref b1_), .val (.ref b174_), .unset, .unset, .unset, .unset] [(.int x1), (.int (1 : Int32)), (.ref b174_)])) tT
      exact kK
    obtain ⟨cl184_, Ar184_, qk184_, Sz184_, Nn184_, Hh184_, Gg184_⟩ := id V180_
    have hin185_ : ¬ ((1 : Int32) < 0 ∨ cl184_.slots.size ≤ ((1 : Int32)).toNatClampNeg) := inb_of Sz184_ ⟨by decide, by decide⟩
    obtain ⟨T185_, h185_, X185_, e185_, W185_, st185_⟩ := stB X180_ hx hZ e180_ Ar184_ (j := (1 : Int32)) hin185_ (g := (mkF mM 115 #[.val (.int p1), .val (.int p2), .val (.int p3), .val (.int p4), .val (.int (6 : Int32)), .val (.ref b1_), .val (.ref b174_), .unset, .unset, .unset, .unset] [(.int x1), (.int (1 : Int32)), (.ref b174_)])) rfl rfl (Jvm.hb hby at_115)
    have V185_ : Arv Z h185_ b174_ k174_ .byte (6 : Int32) [(.int (nar .byte x0)), (.int (nar .byte x1)), (.int (0 : Int32)), (.int (0 : Int32)), (.int (0 : Int32)), (.int (0 : Int32))] (.int (0 : Int32)) := Arv.set Ar184_ qk184_ Sz184_ Nn184_ Hh184_ Gg184_ (fits_nar_byte _) W185_ 1 rfl (Nat.le_of_ble_eq_true rfl)
    have fc186_ := fc181_.other W185_ ne175_
    have K185_ := K180_.wr W185_ (Or.inr sz_b174_)
    have N185_ := Fr.snoc X185_ N180_ ge_b174_
    refine own_fin st185_ ?_
    show own_Fin pP eE below _ (T185_.setTop (mkF mM 116 #[.val (.int p1), .val (.int p2), .val (.int p3), .val (.int p4), .val (.int (6 : Int32)), .val (.ref b1_), .val (.ref b174_), .unset, .unset, .unset, .unset] []))
    refine own_fin (b := T185_.setTop (mkF mM 128 #[.val (.int p1), .val (.int p2), .val (.int p3), .val (.int p4), .val (.int (6 : Int32)), .val (.ref b1_), .val (.ref b174_), .unset, .unset, .unset, .unset] [(.int (2 : Int32)), (.ref b1_), (.int (2 : Int32)), (.ref b174_)])) (fun tT kK => ?_) ?_
    · show Steps pP.tables eE below (T185_.setTop (mkF mM 116 #[.val (.int p1), .val (.int p2), .val (.int p3), .val (.int p4), .val (.int (6 : Int32)), .val (.ref b1_), .val (.ref b174_), .unset, .unset, .unset, .unset] [])) tT
      refine XS.iload X185_.here hx rfl (Jvm.hb hby at_116) rfl ?_
      show Steps pP.tables eE below (T185_.setTop (mkF mM 118 #[.val (.int p1), .val (.int p2), .val (.int p3), .val (.int p4), .val (.int (6 : Int32)), .val (.ref b1_), .val (.ref b174_), .unset, .unset, .unset, .unset] [(.int (6 : Int32))])) tT
      refine XS.iconst X185_.here hx rfl (Jvm.hb hby at_118) ?_
      show Steps pP.tables eE below (T185_.setTop (mkF mM 119 #[.val (.int p1), .val (.int p2), .val (.int p3), .val (.int p4), .val (.int (6 : Int32)), .val (.ref b1_), .val (.ref b174_), .unset, .unset, .unset, .unset] [(.int (2 : Int32)), (.int (6 : Int32))])) tT
      refine XS.icmpNo X185_.here hx rfl (Jvm.hb hby at_119) rfl (tlt ((by decide) : (2 : Int32) < (6 : Int32))).2.2.2 ?_
      show Steps pP.tables eE below (T185_.setTop (mkF mM 122 #[.val (.int p1), .val (.int p2), .val (.int p3), .val (.int p4), .val (.int (6 : Int32)), .val (.ref b1_), .val (.ref b174_), .unset, .unset, .unset, .unset] [])) tT
      refine XS.aload X185_.here hx rfl (Jvm.hb hby at_122) rfl rfl ?_
      show Steps pP.tables eE below (T185_.setTop (mkF mM 124 #[.val (.int p1), .val (.int p2), .val (.int p3), .val (.int p4), .val (.int (6 : Int32)), .val (.ref b1_), .val (.ref b174_), .unset, .unset, .unset, .unset] [(.ref b174_)])) tT
      refine XS.iconst X185_.here hx rfl (Jvm.hb hby at_124) ?_
      show Steps pP.tables eE below (T185_.setTop (mkF mM 125 #[.val (.int p1), .val (.int p2), .val (.int p3), .val (.int p4), .val (.int (6 : Int32)), .val (.ref b1_), .val (.ref b174_), .unset, .unset, .unset, .unset] [(.int (2 : Int32)), (.ref b174_)])) tT
      refine XS.aload X185_.here hx rfl (Jvm.hb hby at_125) rfl rfl ?_
      show Steps pP.tables eE below (T185_.setTop (mkF mM 127 #[.val (.int p1), .val (.int p2), .val (.int p3), .val (.int p4), .val (.int (6 : Int32)), .val (.ref b1_), .val (.ref b174_), .unset, .unset, .unset, .unset] [(.ref b1_), (.int (2 : Int32)), (.ref b174_)])) tT
      refine XS.iconst X185_.here hx rfl (Jvm.hb hby at_127) ?_
      show Steps pP.tables eE below (T185_.setTop (mkF mM 128 #[.val (.int p1), .val (.int p2), .val (.int p3), .val (.int p4), .val (.int (6 : Int32)), .val (.ref b1_), .val (.ref b174_), .unset, .unset, .unset, .unset] [(.int (2 : Int32)), (.ref b1_), (.int (2 : Int32)), (.ref b174_)])) tT
      exact kK
    obtain ⟨cl187_, Ar187_, qk187_, Sz187_, Nn187_, Hh187_, Gg187_⟩ := id fc186_
    have hin188_ : ¬ ((2 : Int32) < 0 ∨ cl187_.slots.size ≤ ((2 : Int32)).toNatClampNeg) := inb_of Sz187_ ⟨by decide, by decide⟩
    have hat188_ : cl187_.slots[((2 : Int32)).toNatClampNeg]? = some (.int x2) := Hh187_.at hin188_ rfl
    refine own_fin (b := T185_.setTop (mkF mM 129 #[.val (.int p1), .val (.int p2), .val (.int p3), .val (.int p4), .val (.int (6 : Int32)), .val (.ref b1_), .val (.ref b174_), .unset, .unset, .unset, .unset] [(.int x2), (.int (2 : Int32)), (.ref b174_)])) (fun tT kK => ?_) ?_
    · show Steps pP.tables eE below (T185_.setTop (mkF mM 128 #[.val (.int p1), .val (.int p2), .val (.int p3), .val (.int p4), .val (.int (6 : Int32)), .val (.ref b1_), .val (.ref b174_), .unset, .unset, .unset, .unset] [(.int (2 : Int32)), (.ref b1_), (.int (2 : Int32)), (.ref b174_)])) tT
      refine X185_.baloadBytes hx (j := (2 : Int32)) (v := (.int x2)) (own_rw e185_ Ar187_.1) (State.isArrayOf_alike hZ.alike Ar187_.2.1) Ar187_.2.2 hin188_ hat188_ (g := (mkF mM 128 #[.val (.int p1), .val (.int p2), .val (.int p3), .val (.int p4), .val (.int (6 : Int32)), .val (.ref b1_), .val (.ref b174_), .unset, .unset, .unset, .unset] [(.int (2 : Int32)), (.ref b1_), (.int (2 : Int32)), (.ref b174_)])) rfl rfl (Jvm.hb hby at_128) _ ?_
      show Steps pP.tables eE below (T185_.setTop (mkF mM 129 #[.val (.int p1), .val (.int p2), .val (.int p3), .val (.int p4), .val (.int (6 : Int32)), .val (.ref b1_), .val (.ref b174_), .unset, .unset, .unset, .unset] [(.int x2), (.int (2 : Int32)), (.ref b174_)])) tT
      exact kK
    obtain ⟨cl189_, Ar189_, qk189_, Sz189_, Nn189_, Hh189_, Gg189_⟩ := id V185_
    have hin190_ : ¬ ((2 : Int32) < 0 ∨ cl189_.slots.size ≤ ((2 : Int32)).toNatClampNeg) := inb_of Sz189_ ⟨by decide, by decide⟩
    obtain ⟨T190_, h190_, X190_, e190_, W190_, st190_⟩ := stB X185_ hx hZ e185_ Ar189_ (j := (2 : Int32)) hin190_ (g := (mkF mM 129 #[.val (.int p1), .val (.int p2), .val (.int p3), .val (.int p4), .val (.int (6 : Int32)), .val (.ref b1_), .val (.ref b174_), .unset, .unset, .unset, .unset] [(.int x2), (.int (2 : Int32)), (.ref b174_)])) rfl rfl (Jvm.hb hby at_129)
    have V190_ : Arv Z h190_ b174_ k174_ .byte (6 : Int32) [(.int (nar .byte x0)), (.int (nar .byte x1)), (.int (nar .byte x2)), (.int (0 : Int32)), (.int (0 : Int32)), (.int (0 : Int32))] (.int (0 : Int32)) := Arv.set Ar189_ qk189_ Sz189_ Nn189_ Hh189_ Gg189_ (fits_nar_byte _) W190_ 2 rfl (Nat.le_of_ble_eq_true rfl)
    have fc191_ := fc186_.other W190_ ne175_
    have K190_ := K185_.wr W190_ (Or.inr sz_b174_)
    have N190_ := Fr.snoc X190_ N185_ ge_b174_
    refine own_fin st190_ ?_
    show own_Fin pP eE below _ (T190_.setTop (mkF mM 130 #[.val (.int p1), .val (.int p2), .val (.int p3), .val (.int p4), .val (.int (6 : Int32)), .val (.ref b1_), .val (.ref b174_), .unset, .unset, .unset, .unset] []))
    refine own_fin (b := T190_.setTop (mkF mM 142 #[.val (.int p1), .val (.int p2), .val (.int p3), .val (.int p4), .val (.int (6 : Int32)), .val (.ref b1_), .val (.ref b174_), .unset, .unset, .unset, .unset] [(.int (3 : Int32)), (.ref b1_), (.int (3 : Int32)), (.ref b174_)])) (fun tT kK => ?_) ?_
    · show Steps pP.tables eE below (T190_.setTop (mkF mM 130 #[.val (.int p1), .val (.int p2), .val (.int p3), .val (.int p4), .val (.int (6 : Int32)), .val (.ref b1_), .val (.ref b174_), .unset, .unset, .unset, .unset] [])) tT
      refine XS.iload X190_.here hx rfl (Jvm.hb hby at_130) rfl ?_
      show Steps pP.tables eE below (T190_.setTop (mkF mM 132 #[.val (.int p1), .val (.int p2), .val (.int p3), .val (.int p4), .val (.int (6 : Int32)), .val (.ref b1_), .val (.ref b174_), .unset, .unset, .unset, .unset] [(.int (6 : Int32))])) tT
      refine XS.iconst X190_.here hx rfl (Jvm.hb hby at_132) ?_
      show Steps pP.tables eE below (T190_.setTop (mkF mM 133 #[.val (.int p1), .val (.int p2), .val (.int p3), .val (.int p4), .val (.int (6 : Int32)), .val (.ref b1_), .val (.ref b174_), .unset, .unset, .unset, .unset] [(.int (3 : Int32)), (.int (6 : Int32))])) tT
      refine XS.icmpNo X190_.here hx rfl (Jvm.hb hby at_133) rfl (tlt ((by decide) : (3 : Int32) < (6 : Int32))).2.2.2 ?_
      show Steps pP.tables eE below (T190_.setTop (mkF mM 136 #[.val (.int p1), .val (.int p2), .val (.int p3), .val (.int p4), .val (.int (6 : Int32)), .val (.ref b1_), .val (.ref b174_), .unset, .unset, .unset, .unset] [])) tT
      refine XS.aload X190_.here hx rfl (Jvm.hb hby at_136) rfl rfl ?_
      show Steps pP.tables eE below (T190_.setTop (mkF mM 138 #[.val (.int p1), .val (.int p2), .val (.int p3), .val (.int p4), .val (.int (6 : Int32)), .val (.ref b1_), .val (.ref b174_), .unset, .unset, .unset, .unset] [(.ref b174_)])) tT
      refine XS.iconst X190_.here hx rfl (Jvm.hb hby at_138) ?_
      show Steps pP.tables eE below (T190_.setTop (mkF mM 139 #[.val (.int p1), .val (.int p2), .val (.int p3), .val (.int p4), .val (.int (6 : Int32)), .val (.ref b1_), .val (.ref b174_), .unset, .unset, .unset, .unset] [(.int (3 : Int32)), (.ref b174_)])) tT
      refine XS.aload X190_.here hx rfl (Jvm.hb hby at_139) rfl rfl ?_
      show Steps pP.tables eE below (T190_.setTop (mkF mM 141 #[.val (.int p1), .val (.int p2), .val (.int p3), .val (.int p4), .val (.int (6 : Int32)), .val (.ref b1_), .val (.ref b174_), .unset, .unset, .unset, .unset] [(.ref b1_), (.int (3 : Int32)), (.ref b174_)])) tT
      refine XS.iconst X190_.here hx rfl (Jvm.hb hby at_141) ?_
      show Steps pP.tables eE below (T190_.setTop (mkF mM 142 #[.val (.int p1), .val (.int p2), .val (.int p3), .val (.int p4), .val (.int (6 : Int32)), .val (.ref b1_), .val (.ref b174_), .unset, .unset, .unset, .unset] [(.int (3 : Int32)), (.ref b1_), (.int (3 : Int32)), (.ref b174_)])) tT
      exact kK
    obtain ⟨cl192_, Ar192_, qk192_, Sz192_, Nn192_, Hh192_, Gg192_⟩ := id fc191_
    have hin193_ : ¬ ((3 : Int32) < 0 ∨ cl192_.slots.size ≤ ((3 : Int32)).toNatClampNeg) := inb_of Sz192_ ⟨by decide, by decide⟩
    have hat193_ : cl192_.slots[((3 : Int32)).toNatClampNeg]? = some (.int x3) := Hh192_.at hin193_ rfl
    refine own_fin (b := T190_.setTop (mkF mM 143 #[.val (.int p1), .val (.int p2), .val (.int p3), .val (.int p4), .val (.int (6 : Int32)), .val (.ref b1_), .val (.ref b174_), .unset, .unset, .unset, .unset] [(.int x3), (.int (3 : Int32)), (.ref b174_)])) (fun tT kK => ?_) ?_
    · show Steps pP.tables eE below (T190_.setTop (mkF mM 142 #[.val (.int p1), .val (.int p2), .val (.int p3), .val (.int p4), .val (.int (6 : Int32)), .val (.ref b1_), .val (.ref b174_), .unset, .unset, .unset, .unset] [(.int (3 : Int32)), (.ref b1_), (.int (3 : Int32)), (.ref b174_)])) tT
      refine X190_.baloadBytes hx (j := (3 : Int32)) (v := (.int x3)) (own_rw e190_ Ar192_.1) (State.isArrayOf_alike hZ.alike Ar192_.2.1) Ar192_.2.2 hin193_ hat193_ (g := (mkF mM 142 #[.val (.int p1), .val (.int p2), .val (.int p3), .val (.int p4), .val (.int (6 : Int32)), .val (.ref b1_), .val (.ref b174_), .unset, .unset, .unset, .unset] [(.int (3 : Int32)), (.ref b1_), (.int (3 : Int32)), (.ref b174_)])) rfl rfl (Jvm.hb hby at_142) _ ?_
      show Steps pP.tables eE below (T190_.setTop (mkF mM 143 #[.val (.int p1), .val (.int p2), .val (.int p3), .val (.int p4), .val (.int (6 : Int32)), .val (.ref b1_), .val (.ref b174_), .unset, .unset, .unset, .unset] [(.int x3), (.int (3 : Int32)), (.ref b174_)])) tT
      exact kK
    obtain ⟨cl194_, Ar194_, qk194_, Sz194_, Nn194_, Hh194_, Gg194_⟩ := id V190_
    have hin195_ : ¬ ((3 : Int32) < 0 ∨ cl194_.slots.size ≤ ((3 : Int32)).toNatClampNeg) := inb_of Sz194_ ⟨by decide, by decide⟩
    obtain ⟨T195_, h195_, X195_, e195_, W195_, st195_⟩ := stB X190_ hx hZ e190_ Ar194_ (j := (3 : Int32)) hin195_ (g := (mkF mM 143 #[.val (.int p1), .val (.int p2), .val (.int p3), .val (.int p4), .val (.int (6 : Int32)), .val (.ref b1_), .val (.ref b174_), .unset, .unset, .unset, .unset] [(.int x3), (.int (3 : Int32)), (.ref b174_)])) rfl rfl (Jvm.hb hby at_143)
    have V195_ : Arv Z h195_ b174_ k174_ .byte (6 : Int32) [(.int (nar .byte x0)), (.int (nar .byte x1)), (.int (nar .byte x2)), (.int (nar .byte x3)), (.int (0 : Int32)), (.int (0 : Int32))] (.int (0 : Int32)) := Arv.set Ar194_ qk194_ Sz194_ Nn194_ Hh194_ Gg194_ (fits_nar_byte _) W195_ 3 rfl (Nat.le_of_ble_eq_true rfl)
    have fc196_ := fc191_.other W195_ ne175_
    have K195_ := K190_.wr W195_ (Or.inr sz_b174_)
    have N195_ := Fr.snoc X195_ N190_ ge_b174_
    refine own_fin st195_ ?_
    show own_Fin pP eE below _ (T195_.setTop (mkF mM 144 #[.val (.int p1), .val (.int p2), .val (.int p3), .val (.int p4), .val (.int (6 : Int32)), .val (.ref b1_), .val (.ref b174_), .unset, .unset, .unset, .unset] []))
    refine own_fin (b := T195_.setTop (mkF mM 156 #[.val (.int p1), .val (.int p2), .val (.int p3), .val (.int p4), .val (.int (6 : Int32)), .val (.ref b1_), .val (.ref b174_), .unset, .unset, .unset, .unset] [(.int (4 : Int32)), (.ref b1_), (.int (4 : Int32)), (.ref b174_)])) (fun tT kK => ?_) ?_
    · show Steps pP.tables eE below (T195_.setTop (mkF mM 144 #[.val (.int p1), .val (.int p2), .val (.int p3), .val (.int p4), .val (.int (6 : Int32)), .val (.ref b1_), .val (.ref b174_), .unset, .unset, .unset, .unset] [])) tT
      refine XS.iload X195_.here hx rfl (Jvm.hb hby at_144) rfl ?_
      show Steps pP.tables eE below (T195_.setTop (mkF mM 146 #[.val (.int p1), .val (.int p2), .val (.int p3), .val (.int p4), .val (.int (6 : Int32)), .val (.ref b1_), .val (.ref b174_), .unset, .unset, .unset, .unset] [(.int (6 : Int32))])) tT
      refine XS.iconst X195_.here hx rfl (Jvm.hb hby at_146) ?_
      show Steps pP.tables eE below (T195_.setTop (mkF mM 147 #[.val (.int p1), .val (.int p2), .val (.int p3), .val (.int p4), .val (.int (6 : Int32)), .val (.ref b1_), .val (.ref b174_), .unset, .unset, .unset, .unset] [(.int (4 : Int32)), (.int (6 : Int32))])) tT
      refine XS.icmpNo X195_.here hx rfl (Jvm.hb hby at_147) rfl (tlt ((by decide) : (4 : Int32) < (6 : Int32))).2.2.2 ?_
      show Steps pP.tables eE below (T195_.setTop (mkF mM 150 #[.val (.int p1), .val (.int p2), .val (.int p3), .val (.int p4), .val (.int (6 : Int32)), .val (.ref b1_), .val (.ref b174_), .unset, .unset, .unset, .unset] [])) tT
      refine XS.aload X195_.here hx rfl (Jvm.hb hby at_150) rfl rfl ?_
      show Steps pP.tables eE below (T195_.setTop (mkF mM 152 #[.val (.int p1), .val (.int p2), .val (.int p3), .val (.int p4), .val (.int (6 : Int32)), .val (.ref b1_), .val (.ref b174_), .unset, .unset, .unset, .unset] [(.ref b174_)])) tT
      refine XS.iconst X195_.here hx rfl (Jvm.hb hby at_152) ?_
      show Steps pP.tables eE below (T195_.setTop (mkF mM 153 #[.val (.int p1), .val (.int p2), .val (.int p3), .val (.int p4), .val (.int (6 : Int32)), .val (.ref b1_), .val (.ref b174_), .unset, .unset, .unset, .unset] [(.int (4 : Int32)), (.ref b174_)])) tT
      refine XS.aload X195_.here hx rfl (Jvm.hb hby at_153) rfl rfl ?_
      show Steps pP.tables eE below (T195_.setTop (mkF mM 155 #[.val (.int p1), .val (.int p2), .val (.int p3), .val (.int p4), .val (.int (6 : Int32)), .val (.ref b1_), .val (.ref b174_), .unset, .unset, .unset, .unset] [(.ref b1_), (.int (4 : Int32)), (.ref b174_)])) tT
      refine XS.iconst X195_.here hx rfl (Jvm.hb hby at_155) ?_
      show Steps pP.tables eE below (T195_.setTop (mkF mM 156 #[.val (.int p1), .val (.int p2), .val (.int p3), .val (.int p4), .val (.int (6 : Int32)), .val (.ref b1_), .val (.ref b174_), .unset, .unset, .unset, .unset] [(.int (4 : Int32)), (.ref b1_), (.int (4 : Int32)), (.ref b174_)])) tT
      exact kK
    obtain ⟨cl197_, Ar197_, qk197_, Sz197_, Nn197_, Hh197_, Gg197_⟩ := id fc196_
    have hin198_ : ¬ ((4 : Int32) < 0 ∨ cl197_.slots.size ≤ ((4 : Int32)).toNatClampNeg) := inb_of Sz197_ ⟨by decide, by decide⟩
    have hat198_ : cl197_.slots[((4 : Int32)).toNatClampNeg]? = some (.int x4) := Hh197_.at hin198_ rfl
    refine own_fin (b := T195_.setTop (mkF mM 157 #[.val (.int p1), .val (.int p2), .val (.int p3), .val (.int p4), .val (.int (6 : Int32)), .val (.ref b1_), .val (.ref b174_), .unset, .unset, .unset, .unset] [(.int x4), (.int (4 : Int32)), (.ref b174_)])) (fun tT kK => ?_) ?_
    · show Steps pP.tables eE below (T195_.setTop (mkF mM 156 #[.val (.int p1), .val (.int p2), .val (.int p3), .val (.int p4), .val (.int (6 : Int32)), .val (.ref b1_), .val (.ref b174_), .unset, .unset, .unset, .unset] [(.int (4 : Int32)), (.ref b1_), (.int (4 : Int32)), (.ref b174_)])) tT
      refine X195_.baloadBytes hx (j := (4 : Int32)) (v := (.int x4)) (own_rw e195_ Ar197_.1) (State.isArrayOf_alike hZ.alike Ar197_.2.1) Ar197_.2.2 hin198_ hat198_ (g := (mkF mM 156 #[.val (.int p1), .val (.int p2), .val (.int p3), .val (.int p4), .val (.int (6 : Int32)), .val (.ref b1_), .val (.ref b174_), .unset, .unset, .unset, .unset] [(.int (4 : Int32)), (.ref b1_), (.int (4 : Int32)), (.ref b174_)])) rfl rfl (Jvm.hb hby at_156) _ ?_
      show Steps pP.tables eE below (T195_.setTop (mkF mM 157 #[.val (.int p1), .val (.int p2), .val (.int p3), .val (.int p4), .val (.int (6 : Int32)), .val (.ref b1_), .val (.ref b174_), .unset, .unset, .unset, .unset] [(.int x4), (.int (4 : Int32)), (.ref b174_)])) tT
      exact kK
    obtain ⟨cl199_, Ar199_, qk199_, Sz199_, Nn199_, Hh199_, Gg199_⟩ := id V195_
    have hin200_ : ¬ ((4 : Int32) < 0 ∨ cl199_.slots.size ≤ ((4 : Int32)).toNatClampNeg) := inb_of Sz199_ ⟨by decide, by decide⟩
    obtain ⟨T200_, h200_, X200_, e200_, W200_, st200_⟩ := stB X195_ hx hZ e195_ Ar199_ (j := (4 : Int32)) hin200_ (g := (mkF mM 157 #[.val (.int p1), .val (.int p2), .val (.int p3), .val (.int p4), .val (.int (6 : Int32)), .val (.ref b1_), .val (.ref b174_), .unset, .unset, .unset, .unset] [(.int x4), (.int (4 : Int32)), (.ref b174_)])) rfl rfl (Jvm.hb hby at_157)
    have V200_ : Arv Z h200_ b174_ k174_ .byte (6 : Int32) [(.int (nar .byte x0)), (.int (nar .byte x1)), (.int (nar .byte x2)), (.int (nar .byte x3)), (.int (nar .byte x4)), (.int (0 : Int32))] (.int (0 : Int32)) := Arv.set Ar199_ qk199_ Sz199_ Nn199_ Hh199_ Gg199_ (fits_nar_byte _) W200_ 4 rfl (Nat.le_of_ble_eq_true rfl)
    have fc201_ := fc196_.other W200_ ne175_
    have K200_ := K195_.wr W200_ (Or.inr sz_b174_)
    have N200_ := Fr.snoc X200_ N195_ ge_b174_
    refine own_fin st200_ ?_
    show own_Fin pP eE below _ (T200_.setTop (mkF mM 158 #[.val (.int p1), .val (.int p2), .val (.int p3), .val (.int p4), .val (.int (6 : Int32)), .val (.ref b1_), .val (.ref b174_), .unset, .unset, .unset, .unset] []))
    refine own_fin (b := T200_.setTop (mkF mM 170 #[.val (.int p1), .val (.int p2), .val (.int p3), .val (.int p4), .val (.int (6 : Int32)), .val (.ref b1_), .val (.ref b174_), .unset, .unset, .unset, .unset] [(.int (5 : Int32)), (.ref b1_), (.int (5 : Int32)), (.ref b174_)])) (fun tT kK => ?_) ?_
    · show Steps pP.tables eE below (T200_.setTop (mkF mM 158 #[.val (.int p1), .val (.int p2), .val (.int p3), .val (.int p4), .val (.int (6 : Int32)), .val (.ref b1_), .val (.ref b174_), .unset, .unset, .unset, .unset] [])) tT
      refine XS.iload X200_.here hx rfl (Jvm.hb hby at_158) rfl ?_
      show Steps pP.tables eE below (T200_.setTop (mkF mM 160 #[.val (.int p1), .val (.int p2), .val (.int p3), .val (.int p4), .val (.int (6 : Int32)), .val (.ref b1_), .val (.ref b174_), .unset, .unset, .unset, .unset] [(.int (6 : Int32))])) tT
      refine XS.iconst X200_.here hx rfl (Jvm.hb hby at_160) ?_
      show Steps pP.tables eE below (T200_.setTop (mkF mM 161 #[.val (.int p1), .val (.int p2), .val (.int p3), .val (.int p4), .val (.int (6 : Int32)), .val (.ref b1_), .val (.ref b174_), .unset, .unset, .unset, .unset] [(.int (5 : Int32)), (.int (6 : Int32))])) tT
      refine XS.icmpNo X200_.here hx rfl (Jvm.hb hby at_161) rfl (tlt ((by decide) : (5 : Int32) < (6 : Int32))).2.2.2 ?_
      show Steps pP.tables eE below (T200_.setTop (mkF mM 164 #[.val (.int p1), .val (.int p2), .val (.int p3), .val (.int p4), .val (.int (6 : Int32)), .val (.ref b1_), .val (.ref b174_), .unset, .unset, .unset, .unset] [])) tT
      refine XS.aload X200_.here hx rfl (Jvm.hb hby at_164) rfl rfl ?_
      show Steps pP.tables eE below (T200_.setTop (mkF mM 166 #[.val (.int p1), .val (.int p2), .val (.int p3), .val (.int p4), .val (.int (6 : Int32)), .val (.ref b1_), .val (.ref b174_), .unset, .unset, .unset, .unset] [(.ref b174_)])) tT
      refine XS.iconst X200_.here hx rfl (Jvm.hb hby at_166) ?_
      show Steps pP.tables eE below (T200_.setTop (mkF mM 167 #[.val (.int p1), .val (.int p2), .val (.int p3), .val (.int p4), .val (.int (6 : Int32)), .val (.ref b1_), .val (.ref b174_), .unset, .unset, .unset, .unset] [(.int (5 : Int32)), (.ref b174_)])) tT
      refine XS.aload X200_.here hx rfl (Jvm.hb hby at_167) rfl rfl ?_
      show Steps pP.tables eE below (T200_.setTop (mkF mM 169 #[.val (.int p1), .val (.int p2), .val (.int p3), .val (.int p4), .val (.int (6 : Int32)), .val (.ref b1_), .val (.ref b174_), .unset, .unset, .unset, .unset] [(.ref b1_), (.int (5 : Int32)), (.ref b174_)])) tT
      refine XS.iconst X200_.here hx rfl (Jvm.hb hby at_169) ?_
      show Steps pP.tables eE below (T200_.setTop (mkF mM 170 #[.val (.int p1), .val (.int p2), .val (.int p3), .val (.int p4), .val (.int (6 : Int32)), .val (.ref b1_), .val (.ref b174_), .unset, .unset, .unset, .unset] [(.int (5 : Int32)), (.ref b1_), (.int (5 : Int32)), (.ref b174_)])) tT
      exact kK
    obtain ⟨cl202_, Ar202_, qk202_, Sz202_, Nn202_, Hh202_, Gg202_⟩ := id fc201_
    have hin203_ : ¬ ((5 : Int32) < 0 ∨ cl202_.slots.size ≤ ((5 : Int32)).toNatClampNeg) := inb_of Sz202_ ⟨by decide, by decide⟩
    have hat203_ : cl202_.slots[((5 : Int32)).toNatClampNeg]? = some (.int x5) := Hh202_.at hin203_ rfl
    refine own_fin (b := T200_.setTop (mkF mM 171 #[.val (.int p1), .val (.int p2), .val (.int p3), .val (.int p4), .val (.int (6 : Int32)), .val (.ref b1_), .val (.ref b174_), .unset, .unset, .unset, .unset] [(.int x5), (.int (5 : Int32)), (.ref b174_)])) (fun tT kK => ?_) ?_
    · show Steps pP.tables eE below (T200_.setTop (mkF mM 170 #[.val (.int p1), .val (.int p2), .val (.int p3), .val (.int p4), .val (.int (6 : Int32)), .val (.ref b1_), .val (.ref b174_), .unset, .unset, .unset, .unset] [(.int (5 : Int32)), (.ref b1_), (.int (5 : Int32)), (.ref b174_)])) tT
      refine X200_.baloadBytes hx (j := (5 : Int32)) (v := (.int x5)) (own_rw e200_ Ar202_.1) (State.isArrayOf_alike hZ.alike Ar202_.2.1) Ar202_.2.2 hin203_ hat203_ (g := (mkF mM 170 #[.val (.int p1), .val (.int p2), .val (.int p3), .val (.int p4), .val (.int (6 : Int32)), .val (.ref b1_), .val (.ref b174_), .unset, .unset, .unset, .unset] [(.int (5 : Int32)), (.ref b1_), (.int (5 : Int32)), (.ref b174_)])) rfl rfl (Jvm.hb hby at_170) _ ?_
      show Steps pP.tables eE below (T200_.setTop (mkF mM 171 #[.val (.int p1), .val (.int p2), .val (.int p3), .val (.int p4), .val (.int (6 : Int32)), .val (.ref b1_), .val (.ref b174_), .unset, .unset, .unset, .unset] [(.int x5), (.int (5 : Int32)), (.ref b174_)])) tT
      exact kK
    obtain ⟨cl204_, Ar204_, qk204_, Sz204_, Nn204_, Hh204_, Gg204_⟩ := id V200_
    have hin205_ : ¬ ((5 : Int32) < 0 ∨ cl204_.slots.size ≤ ((5 : Int32)).toNatClampNeg) := inb_of Sz204_ ⟨by decide, by decide⟩
    obtain ⟨T205_, h205_, X205_, e205_, W205_, st205_⟩ := stB X200_ hx hZ e200_ Ar204_ (j := (5 : Int32)) hin205_ (g := (mkF mM 171 #[.val (.int p1), .val (.int p2), .val (.int p3), .val (.int p4), .val (.int (6 : Int32)), .val (.ref b1_), .val (.ref b174_), .unset, .unset, .unset, .unset] [(.int x5), (.int (5 : Int32)), (.ref b174_)])) rfl rfl (Jvm.hb hby at_171)
    have V205_ : Arv Z h205_ b174_ k174_ .byte (6 : Int32) [(.int (nar .byte x0)), (.int (nar .byte x1)), (.int (nar .byte x2)), (.int (nar .byte x3)), (.int (nar .byte x4)), (.int (nar .byte x5))] (.int (0 : Int32)) := Arv.set Ar204_ qk204_ Sz204_ Nn204_ Hh204_ Gg204_ (fits_nar_byte _) W205_ 5 rfl (Nat.le_of_ble_eq_true rfl)
    have fc206_ := fc201_.other W205_ ne175_
    have K205_ := K200_.wr W205_ (Or.inr sz_b174_)
    have N205_ := Fr.snoc X205_ N200_ ge_b174_
    refine own_fin st205_ ?_
    show own_Fin pP eE below _ (T205_.setTop (mkF mM 172 #[.val (.int p1), .val (.int p2), .val (.int p3), .val (.int p4), .val (.int (6 : Int32)), .val (.ref b1_), .val (.ref b174_), .unset, .unset, .unset, .unset] []))
    refine own_fin (b := T205_.setTop (mkF mM 213 #[.val (.int p1), .val (.int p2), .val (.int p3), .val (.int p4), .val (.int (6 : Int32)), .val (.ref b1_), .val (.ref b174_), .val (.int (p4 &&& (255 : Int32))), .unset, .unset, .unset] [])) (fun tT kK => ?_) ?_
    · show Steps pP.tables eE below (T205_.setTop (mkF mM 172 #[.val (.int p1), .val (.int p2), .val (.int p3), .val (.int p4), .val (.int (6 : Int32)), .val (.ref b1_), .val (.ref b174_), .unset, .unset, .unset, .unset] [])) tT
      refine XS.iload X205_.here hx rfl (Jvm.hb hby at_172) rfl ?_
      show Steps pP.tables eE below (T205_.setTop (mkF mM 174 #[.val (.int p1), .val (.int p2), .val (.int p3), .val (.int p4), .val (.int (6 : Int32)), .val (.ref b1_), .val (.ref b174_), .unset, .unset, .unset, .unset] [(.int (6 : Int32))])) tT
      refine XS.bipush X205_.here hx rfl (Jvm.hb hby at_174) ?_
      show Steps pP.tables eE below (T205_.setTop (mkF mM 176 #[.val (.int p1), .val (.int p2), .val (.int p3), .val (.int p4), .val (.int (6 : Int32)), .val (.ref b1_), .val (.ref b174_), .unset, .unset, .unset, .unset] [(.int (6 : Int32)), (.int (6 : Int32))])) tT
      refine XS.icmpYes X205_.here hx rfl (pc0 := 176) (pc' := 189) rfl (Jvm.hb hby at_176) rfl (flt ((by decide) : ¬ ((6 : Int32) < (6 : Int32)))).2.2.2 (by decide) (by decide) ?_
      show Steps pP.tables eE below (T205_.setTop (mkF mM 189 #[.val (.int p1), .val (.int p2), .val (.int p3), .val (.int p4), .val (.int (6 : Int32)), .val (.ref b1_), .val (.ref b174_), .unset, .unset, .unset, .unset] [])) tT
      refine XS.iload X205_.here hx rfl (Jvm.hb hby at_189) rfl ?_
      show Steps pP.tables eE below (T205_.setTop (mkF mM 191 #[.val (.int p1), .val (.int p2), .val (.int p3), .val (.int p4), .val (.int (6 : Int32)), .val (.ref b1_), .val (.ref b174_), .unset, .unset, .unset, .unset] [(.int (6 : Int32))])) tT
      refine XS.bipush X205_.here hx rfl (Jvm.hb hby at_191) ?_
      show Steps pP.tables eE below (T205_.setTop (mkF mM 193 #[.val (.int p1), .val (.int p2), .val (.int p3), .val (.int p4), .val (.int (6 : Int32)), .val (.ref b1_), .val (.ref b174_), .unset, .unset, .unset, .unset] [(.int (7 : Int32)), (.int (6 : Int32))])) tT
      refine XS.icmpYes X205_.here hx rfl (pc0 := 193) (pc' := 206) rfl (Jvm.hb hby at_193) rfl (flt ((by decide) : ¬ ((7 : Int32) < (6 : Int32)))).2.2.2 (by decide) (by decide) ?_
      show Steps pP.tables eE below (T205_.setTop (mkF mM 206 #[.val (.int p1), .val (.int p2), .val (.int p3), .val (.int p4), .val (.int (6 : Int32)), .val (.ref b1_), .val (.ref b174_), .unset, .unset, .unset, .unset] [])) tT
      refine XS.iloadN X205_.here hx rfl (Jvm.hb hby at_206) rfl ?_
      show Steps pP.tables eE below (T205_.setTop (mkF mM 207 #[.val (.int p1), .val (.int p2), .val (.int p3), .val (.int p4), .val (.int (6 : Int32)), .val (.ref b1_), .val (.ref b174_), .unset, .unset, .unset, .unset] [(.int p4)])) tT
      refine XS.sipush X205_.here hx rfl (Jvm.hb hby at_207) ?_
      show Steps pP.tables eE below (T205_.setTop (mkF mM 210 #[.val (.int p1), .val (.int p2), .val (.int p3), .val (.int p4), .val (.int (6 : Int32)), .val (.ref b1_), .val (.ref b174_), .unset, .unset, .unset, .unset] [(.int (255 : Int32)), (.int p4)])) tT
      refine XS.iand X205_.here hx rfl (Jvm.hb hby at_210) rfl ?_
      show Steps pP.tables eE below (T205_.setTop (mkF mM 211 #[.val (.int p1), .val (.int p2), .val (.int p3), .val (.int p4), .val (.int (6 : Int32)), .val (.ref b1_), .val (.ref b174_), .unset, .unset, .unset, .unset] [(.int (p4 &&& (255 : Int32)))])) tT
      refine XS.istore X205_.here hx rfl (Jvm.hb hby at_211) rfl (l' := #[.val (.int p1), .val (.int p2), .val (.int p3), .val (.int p4), .val (.int (6 : Int32)), .val (.ref b1_), .val (.ref b174_), .val (.int (p4 &&& (255 : Int32))), .unset, .unset, .unset]) rfl ?_
      show Steps pP.tables eE below (T205_.setTop (mkF mM 213 #[.val (.int p1), .val (.int p2), .val (.int p3), .val (.int p4), .val (.int (6 : Int32)), .val (.ref b1_), .val (.ref b174_), .val (.int (p4 &&& (255 : Int32))), .unset, .unset, .unset] [])) tT
      exact kK
    show own_Fin pP eE below _ (T205_.setTop (mkF mM 213 #[.val (.int p1), .val (.int p2), .val (.int p3), .val (.int p4), .val (.int (6 : Int32)), .val (.ref b1_), .val (.ref b174_), .val (.int (p4 &&& (255 : Int32))), .unset, .unset, .unset] []))
    generalize hvq : (p4 &&& (255 : Int32)) = vq
    show own_Fin pP eE below _ (T205_.setTop (mkF mM 213 #[.val (.int p1), .val (.int p2), .val (.int p3), .val (.int p4), .val (.int (6 : Int32)), .val (.ref b1_), .val (.ref b174_), .val (.int vq), .unset, .unset, .unset] []))
    have hq := own_m255 p4
    rw [hvq] at hq
    have Vp : Arv Z h205_ b174_ k174_ .byte (6 : Int32) (([x0, x1, x2, x3, x4, x5] : List Int32).map Value.int) (.int (0 : Int32)) := by have q := V205_; rw [hy0, hy1, hy2, hy3, hy4, hy5] at q; exact q
    refine own_fin (b := T205_.setTop (mkF mM 215 #[.val (.int p1), .val (.int p2), .val (.int p3), .val (.int p4), .val (.int (6 : Int32)), .val (.ref b1_), .val (.ref b174_), .val (.int vq), .unset, .unset, .unset] [(.ref b174_)])) (fun tT kK => ?_) ?_
    · show Steps pP.tables eE below (T205_.setTop (mkF mM 213 #[.val (.int p1), .val (.int p2), .val (.int p3), .val (.int p4), .val (.int (6 : Int32)), .val (.ref b1_), .val (.ref b174_), .val (.int vq), .unset, .unset, .unset] [])) tT
      refine XS.aload X205_.here hx rfl (Jvm.hb hby at_213) rfl rfl ?_
      show Steps pP.tables eE below (T205_.setTop (mkF mM 215 #[.val (.int p1), .val (.int p2), .val (.int p3), .val (.int p4), .val (.int (6 : Int32)), .val (.ref b1_), .val (.ref b174_), .val (.int vq), .unset, .unset, .unset] [(.ref b174_)])) tT
      exact kK
    obtain ⟨_, _, ⟨T207_, L207_, k207_, n207_⟩, -, X207_, ⟨Lc207_, hQ207_, l207_, y207_, z207_⟩, st207_⟩ := Jvm.LawKit.callS X205_ hx (y := (⟨"com/example/needlework/needlework/BoyerMoore", "rightmost", "([B)[I"⟩ : MethodName)) hown (mvT hZ (hw _ (List.mem_of_getElem? (i := 1) rfl))) (mvT hZ (hw _ (List.mem_of_getElem? (i := 2) rfl))) (mvT hZ (hw _ (List.mem_of_getElem? (i := 3) rfl))) (mvT hZ (hw _ (List.mem_of_getElem? (i := 4) rfl))) (by decide) (backOf (W := 0) (rm_right lL Z a0 hw [] b174_ k174_ (6 : Int32) ([x0, x1, x2, x3, x4, x5] : List Int32) h205_ n0 (Nat.le_trans Z0 K205_.1) Vp) hZ (hw _ (List.mem_of_getElem? (i := 4) rfl)) (hw _ (List.mem_of_getElem? (i := 3) rfl)) (by decide) (by decide)) (g := (mkF mM 215 #[.val (.int p1), .val (.int p2), .val (.int p3), .val (.int p4), .val (.int (6 : Int32)), .val (.ref b1_), .val (.ref b174_), .val (.int vq), .unset, .unset, .unset] [(.ref b174_)])) rfl (by rw [hml]; rfl) (argsL := [(.ref b174_)]) (rest := []) (lenOf own_pd1 rfl) rfl (by show 2 * 0 + _ ≤ _; exact Nat.le_of_eq rfl) (Jvm.hb hby at_215) (fun _ _ => ⟨rfl, e205_, (by decide : 2 + 1 ≤ _), (by decide : 14 + 256 ≤ _)⟩)
    dsimp only [Pt.U, Pt.locs, Pt.cells, Pt.slots] at X207_ l207_ y207_ z207_ st207_ hQ207_
    subst l207_ y207_ z207_
    obtain ⟨b_207_, rfl, N207_q, p207__0, p207__1, p207__2⟩ := hQ207_
    have N207_ := Fr.app N205_ N207_q
    have sz_b_207_ : h0.size ≤ b_207_ := Nat.le_trans K205_.1 p207__1
    have ge_b_207_ : n0 ≤ b_207_ := Nat.le_trans Z0 sz_b_207_
    have ne208_ : b1_ ≠ b_207_ := Nat.ne_of_lt (Nat.lt_of_lt_of_le fc206_.lt p207__1)
    have ne209_ : b174_ ≠ b_207_ := Nat.ne_of_lt (Nat.lt_of_lt_of_le V205_.lt p207__1)
    have fc210_ := fc206_.keep p207__0 nin0
    have fc211_ := V205_.keep p207__0 nin0
    have K207_ := K205_.trans p207__0 all0
    refine own_fin (fun tT kK => st207_ tT kK) ?_
    show own_Fin pP eE below _ (T207_.setTop (mkF mM 218 #[.val (.int p1), .val (.int p2), .val (.int p3), .val (.int p4), .val (.int (6 : Int32)), .val (.ref b1_), .val (.ref b174_), .val (.int vq), .unset, .unset, .unset] [(.ref b_207_)]))
    refine own_fin (b := T207_.setTop (mkF mM 227 #[.val (.int p1), .val (.int p2), .val (.int p3), .val (.int p4), .val (.int (6 : Int32)), .val (.ref b1_), .val (.ref b174_), .val (.int vq), .val (.ref b_207_), .unset, .unset] [(.ref b_207_)])) (fun tT kK => ?_) ?_
    · show Steps pP.tables eE below (T207_.setTop (mkF mM 218 #[.val (.int p1), .val (.int p2), .val (.int p3), .val (.int p4), .val (.int (6 : Int32)), .val (.ref b1_), .val (.ref b174_), .val (.int vq), .unset, .unset, .unset] [(.ref b_207_)])) tT
      refine XS.astore X207_.here hx rfl (Jvm.hb hby at_218) rfl rfl (l' := #[.val (.int p1), .val (.int p2), .val (.int p3), .val (.int p4), .val (.int (6 : Int32)), .val (.ref b1_), .val (.ref b174_), .val (.int vq), .val (.ref b_207_), .unset, .unset]) rfl ?_
      show Steps pP.tables eE below (T207_.setTop (mkF mM 220 #[.val (.int p1), .val (.int p2), .val (.int p3), .val (.int p4), .val (.int (6 : Int32)), .val (.ref b1_), .val (.ref b174_), .val (.int vq), .val (.ref b_207_), .unset, .unset] [])) tT
      refine XS.aload X207_.here hx rfl (Jvm.hb hby at_220) rfl rfl ?_
      show Steps pP.tables eE below (T207_.setTop (mkF mM 222 #[.val (.int p1), .val (.int p2), .val (.int p3), .val (.int p4), .val (.int (6 : Int32)), .val (.ref b1_), .val (.ref b174_), .val (.int vq), .val (.ref b_207_), .unset, .unset] [(.ref b_207_)])) tT
      refine XS.ifnullNo X207_.here hx rfl (Jvm.hb hby at_222) rfl ?_
      show Steps pP.tables eE below (T207_.setTop (mkF mM 225 #[.val (.int p1), .val (.int p2), .val (.int p3), .val (.int p4), .val (.int (6 : Int32)), .val (.ref b1_), .val (.ref b174_), .val (.int vq), .val (.ref b_207_), .unset, .unset] [])) tT
      refine XS.aload X207_.here hx rfl (Jvm.hb hby at_225) rfl rfl ?_
      show Steps pP.tables eE below (T207_.setTop (mkF mM 227 #[.val (.int p1), .val (.int p2), .val (.int p3), .val (.int p4), .val (.int (6 : Int32)), .val (.ref b1_), .val (.ref b174_), .val (.int vq), .val (.ref b_207_), .unset, .unset] [(.ref b_207_)])) tT
      exact kK
    obtain ⟨cl212_, Ar212_, Sz212_, Nn212_, -⟩ := id p207__2
    refine own_fin (b := T207_.setTop (mkF mM 240 #[.val (.int p1), .val (.int p2), .val (.int p3), .val (.int p4), .val (.int (6 : Int32)), .val (.ref b1_), .val (.ref b174_), .val (.int vq), .val (.ref b_207_), .unset, .unset] [(.int vq), (.ref b_207_)])) (fun tT kK => ?_) ?_
    · show Steps pP.tables eE below (T207_.setTop (mkF mM 227 #[.val (.int p1), .val (.int p2), .val (.int p3), .val (.int p4), .val (.int (6 : Int32)), .val (.ref b1_), .val (.ref b174_), .val (.int vq), .val (.ref b_207_), .unset, .unset] [(.ref b_207_)])) tT
      refine X207_.arraylength hx (own_rw rfl Ar212_.1) (State.isArrayOf_alike hZ.alike Ar212_.2.1) (g := (mkF mM 227 #[.val (.int p1), .val (.int p2), .val (.int p3), .val (.int p4), .val (.int (6 : Int32)), .val (.ref b1_), .val (.ref b174_), .val (.int vq), .val (.ref b_207_), .unset, .unset] [(.ref b_207_)])) rfl rfl (Jvm.hb hby at_227) _ ?_
      rw [len_of Sz212_ Nn212_]
      show Steps pP.tables eE below (T207_.setTop (mkF mM 228 #[.val (.int p1), .val (.int p2), .val (.int p3), .val (.int p4), .val (.int (6 : Int32)), .val (.ref b1_), .val (.ref b174_), .val (.int vq), .val (.ref b_207_), .unset, .unset] [(.int (256 : Int32))])) tT
      refine XS.sipush X207_.here hx rfl (Jvm.hb hby at_228) ?_
      show Steps pP.tables eE below (T207_.setTop (mkF mM 231 #[.val (.int p1), .val (.int p2), .val (.int p3), .val (.int p4), .val (.int (6 : Int32)), .val (.ref b1_), .val (.ref b174_), .val (.int vq), .val (.ref b_207_), .unset, .unset] [(.int (256 : Int32)), (.int (256 : Int32))])) tT
      refine XS.icmpYes X207_.here hx rfl (pc0 := 231) (pc' := 236) rfl (Jvm.hb hby at_231) rfl (teq ((by decide) : (256 : Int32) = (256 : Int32))).1 (by decide) (by decide) ?_
      show Steps pP.tables eE below (T207_.setTop (mkF mM 236 #[.val (.int p1), .val (.int p2), .val (.int p3), .val (.int p4), .val (.int (6 : Int32)), .val (.ref b1_), .val (.ref b174_), .val (.int vq), .val (.ref b_207_), .unset, .unset] [])) tT
      refine XS.aload X207_.here hx rfl (Jvm.hb hby at_236) rfl rfl ?_
      show Steps pP.tables eE below (T207_.setTop (mkF mM 238 #[.val (.int p1), .val (.int p2), .val (.int p3), .val (.int p4), .val (.int (6 : Int32)), .val (.ref b1_), .val (.ref b174_), .val (.int vq), .val (.ref b_207_), .unset, .unset] [(.ref b_207_)])) tT
      refine XS.iload X207_.here hx rfl (Jvm.hb hby at_238) rfl ?_
      show Steps pP.tables eE below (T207_.setTop (mkF mM 240 #[.val (.int p1), .val (.int p2), .val (.int p3), .val (.int p4), .val (.int (6 : Int32)), .val (.ref b1_), .val (.ref b174_), .val (.int vq), .val (.ref b_207_), .unset, .unset] [(.int vq), (.ref b_207_)])) tT
      exact kK
    obtain ⟨cl213_, Ar213_, Sz213_, Nn213_, Hh213_⟩ := id p207__2
    have hin213_ : ¬ (vq < 0 ∨ cl213_.slots.size ≤ (vq).toNatClampNeg) := inb_of Sz213_ hq
    have hat213_ : cl213_.slots[(vq).toNatClampNeg]? = some (.int ((own_ft ([x0, x1, x2, x3, x4, x5] : List Int32) (6 : Int32).toNatClampNeg) vq)) := Hh213_ _ hin213_
    refine own_fin (b := T207_.setTop (mkF mM 247 #[.val (.int p1), .val (.int p2), .val (.int p3), .val (.int p4), .val (.int (6 : Int32)), .val (.ref b1_), .val (.ref b174_), .val (.int vq), .val (.ref b_207_), .unset, .unset] [(.int vq), (.int (6 : Int32)), (.ref b1_), (.int ((own_ft ([x0, x1, x2, x3, x4, x5] : List Int32) (6 : Int32).toNatClampNeg) vq))])) (fun tT kK => ?_) ?_
    · show Steps pP.tables eE below (T207_.setTop (mkF mM 240 #[.val (.int p1), .val (.int p2), .val (.int p3), .val (.int p4), .val (.int (6 : Int32)), .val (.ref b1_), .val (.ref b174_), .val (.int vq), .val (.ref b_207_), .unset, .unset] [(.int vq), (.ref b_207_)])) tT
      refine X207_.iaload hx (j := vq) (v := (.int ((own_ft ([x0, x1, x2, x3, x4, x5] : List Int32) (6 : Int32).toNatClampNeg) vq))) (own_rw rfl Ar213_.1) (State.isArrayOf_alike hZ.alike Ar213_.2.1) Ar213_.2.2 hin213_ hat213_ (g := (mkF mM 240 #[.val (.int p1), .val (.int p2), .val (.int p3), .val (.int p4), .val (.int (6 : Int32)), .val (.ref b1_), .val (.ref b174_), .val (.int vq), .val (.ref b_207_), .unset, .unset] [(.int vq), (.ref b_207_)])) rfl rfl (Jvm.hb hby at_240) _ ?_
      show Steps pP.tables eE below (T207_.setTop (mkF mM 241 #[.val (.int p1), .val (.int p2), .val (.int p3), .val (.int p4), .val (.int (6 : Int32)), .val (.ref b1_), .val (.ref b174_), .val (.int vq), .val (.ref b_207_), .unset, .unset] [(.int ((own_ft ([x0, x1, x2, x3, x4, x5] : List Int32) (6 : Int32).toNatClampNeg) vq))])) tT
      refine XS.aload X207_.here hx rfl (Jvm.hb hby at_241) rfl rfl ?_
      show Steps pP.tables eE below (T207_.setTop (mkF mM 243 #[.val (.int p1), .val (.int p2), .val (.int p3), .val (.int p4), .val (.int (6 : Int32)), .val (.ref b1_), .val (.ref b174_), .val (.int vq), .val (.ref b_207_), .unset, .unset] [(.ref b1_), (.int ((own_ft ([x0, x1, x2, x3, x4, x5] : List Int32) (6 : Int32).toNatClampNeg) vq))])) tT
      refine XS.iload X207_.here hx rfl (Jvm.hb hby at_243) rfl ?_
      show Steps pP.tables eE below (T207_.setTop (mkF mM 245 #[.val (.int p1), .val (.int p2), .val (.int p3), .val (.int p4), .val (.int (6 : Int32)), .val (.ref b1_), .val (.ref b174_), .val (.int vq), .val (.ref b_207_), .unset, .unset] [(.int (6 : Int32)), (.ref b1_), (.int ((own_ft ([x0, x1, x2, x3, x4, x5] : List Int32) (6 : Int32).toNatClampNeg) vq))])) tT
      refine XS.iload X207_.here hx rfl (Jvm.hb hby at_245) rfl ?_
      show Steps pP.tables eE below (T207_.setTop (mkF mM 247 #[.val (.int p1), .val (.int p2), .val (.int p3), .val (.int p4), .val (.int (6 : Int32)), .val (.ref b1_), .val (.ref b174_), .val (.int vq), .val (.ref b_207_), .unset, .unset] [(.int vq), (.int (6 : Int32)), (.ref b1_), (.int ((own_ft ([x0, x1, x2, x3, x4, x5] : List Int32) (6 : Int32).toNatClampNeg) vq))])) tT
      exact kK
    obtain ⟨_, _, ⟨T214_, L214_, k214_, n214_⟩, -, X214_, ⟨Lc214_, hQ214_, l214_, y214_, z214_⟩, st214_⟩ := Jvm.LawKit.callS X207_ hx (y := (⟨"com/example/needlework/needlework/BoyerMooreRightmostPinLaw", "ref", "([BII)I"⟩ : MethodName)) hown (mvT hZ (hw _ (List.mem_of_getElem? (i := 10) rfl))) (mvT hZ (hw _ (List.mem_of_getElem? (i := 11) rfl))) (mvT hZ (hw _ (List.mem_of_getElem? (i := 12) rfl))) (mvT hZ (hw _ (List.mem_of_getElem? (i := 13) rfl))) (by decide) (backOf (W := 1) (rm_ref lL Z a0 hw [] b1_ k1_ (6 : Int32) vq x0 x1 x2 x3 x4 x5 x6 x7 T207_.heap n0 (Nat.le_trans Z0 K207_.1) fc210_) hZ (hw _ (List.mem_of_getElem? (i := 13) rfl)) (hw _ (List.mem_of_getElem? (i := 12) rfl)) (by decide) (by decide)) (g := (mkF mM 247 #[.val (.int p1), .val (.int p2), .val (.int p3), .val (.int p4), .val (.int (6 : Int32)), .val (.ref b1_), .val (.ref b174_), .val (.int vq), .val (.ref b_207_), .unset, .unset] [(.int vq), (.int (6 : Int32)), (.ref b1_), (.int ((own_ft ([x0, x1, x2, x3, x4, x5] : List Int32) (6 : Int32).toNatClampNeg) vq))])) rfl (by rw [hml]; rfl) (argsL := [(.ref b1_), (.int (6 : Int32)), (.int vq)]) (rest := [(.int ((own_ft ([x0, x1, x2, x3, x4, x5] : List Int32) (6 : Int32).toNatClampNeg) vq))]) (lenOf own_pd2 rfl) rfl (by show 2 * 0 + _ ≤ _; exact Nat.le_of_eq rfl) (Jvm.hb hby at_247) (fun _ _ => ⟨rfl, rfl, (by decide : 3 + 0 ≤ _), (by decide : 270 + 0 ≤ _)⟩)
    dsimp only [Pt.U, Pt.locs, Pt.cells, Pt.slots] at X214_ l214_ y214_ z214_ st214_ hQ214_
    subst l214_ y214_ z214_
    obtain ⟨rfl, N214_q, p214__0⟩ := hQ214_
    have N214_ := Fr.app N207_ N214_q
    refine own_fin (fun tT kK => st214_ tT kK) ?_
    show own_Fin pP eE below _ (T214_.setTop (mkF mM 250 #[.val (.int p1), .val (.int p2), .val (.int p3), .val (.int p4), .val (.int (6 : Int32)), .val (.ref b1_), .val (.ref b174_), .val (.int vq), .val (.ref b_207_), .unset, .unset] [(.int (own_ref (6 : Int32) vq x0 x1 x2 x3 x4 x5 x6 x7)), (.int ((own_ft ([x0, x1, x2, x3, x4, x5] : List Int32) (6 : Int32).toNatClampNeg) vq))]))
    refine own_fin (b := T214_.setTop (mkF mM 271 #[.val (.int p1), .val (.int p2), .val (.int p3), .val (.int p4), .val (.int (6 : Int32)), .val (.ref b1_), .val (.ref b174_), .val (.int vq), .val (.ref b_207_), .val (.int (1 : Int32)), .unset] [(.int (5 : Int32)), (.ref b1_)])) (fun tT kK => ?_) ?_
    · show Steps pP.tables eE below (T214_.setTop (mkF mM 250 #[.val (.int p1), .val (.int p2), .val (.int p3), .val (.int p4), .val (.int (6 : Int32)), .val (.ref b1_), .val (.ref b174_), .val (.int vq), .val (.ref b_207_), .unset, .unset] [(.int (own_ref (6 : Int32) vq x0 x1 x2 x3 x4 x5 x6 x7)), (.int ((own_ft ([x0, x1, x2, x3, x4, x5] : List Int32) (6 : Int32).toNatClampNeg) vq))])) tT
      refine XS.icmpNo X214_.here hx rfl (Jvm.hb hby at_250) rfl (teq (own_e6 vq x0 x1 x2 x3 x4 x5 x6 x7 : ((own_ft ([x0, x1, x2, x3, x4, x5] : List Int32) (6 : Int32).toNatClampNeg) vq) = (own_ref (6 : Int32) vq x0 x1 x2 x3 x4 x5 x6 x7))).2 ?_
      show Steps pP.tables eE below (T214_.setTop (mkF mM 253 #[.val (.int p1), .val (.int p2), .val (.int p3), .val (.int p4), .val (.int (6 : Int32)), .val (.ref b1_), .val (.ref b174_), .val (.int vq), .val (.ref b_207_), .unset, .unset] [])) tT
      refine XS.iconst X214_.here hx rfl (Jvm.hb hby at_253) ?_
      show Steps pP.tables eE below (T214_.setTop (mkF mM 254 #[.val (.int p1), .val (.int p2), .val (.int p3), .val (.int p4), .val (.int (6 : Int32)), .val (.ref b1_), .val (.ref b174_), .val (.int vq), .val (.ref b_207_), .unset, .unset] [(.int (1 : Int32))])) tT
      refine XS.goto X214_.here hx rfl (pc0 := 254) (pc' := 258) rfl (Jvm.hb hby at_254) (by decide) (by decide) ?_
      show Steps pP.tables eE below (T214_.setTop (mkF mM 258 #[.val (.int p1), .val (.int p2), .val (.int p3), .val (.int p4), .val (.int (6 : Int32)), .val (.ref b1_), .val (.ref b174_), .val (.int vq), .val (.ref b_207_), .unset, .unset] [(.int (1 : Int32))])) tT
      refine XS.istore X214_.here hx rfl (Jvm.hb hby at_258) rfl (l' := #[.val (.int p1), .val (.int p2), .val (.int p3), .val (.int p4), .val (.int (6 : Int32)), .val (.ref b1_), .val (.ref b174_), .val (.int vq), .val (.ref b_207_), .val (.int (1 : Int32)), .unset]) rfl ?_
      show Steps pP.tables eE below (T214_.setTop (mkF mM 260 #[.val (.int p1), .val (.int p2), .val (.int p3), .val (.int p4), .val (.int (6 : Int32)), .val (.ref b1_), .val (.ref b174_), .val (.int vq), .val (.ref b_207_), .val (.int (1 : Int32)), .unset] [])) tT
      refine XS.iload X214_.here hx rfl (Jvm.hb hby at_260) rfl ?_
      show Steps pP.tables eE below (T214_.setTop (mkF mM 262 #[.val (.int p1), .val (.int p2), .val (.int p3), .val (.int p4), .val (.int (6 : Int32)), .val (.ref b1_), .val (.ref b174_), .val (.int vq), .val (.ref b_207_), .val (.int (1 : Int32)), .unset] [(.int (6 : Int32))])) tT
      refine XS.ifNo X214_.here hx rfl (Jvm.hb hby at_262) rfl ((if0 _ _).trans (tlt ((by decide) : (0 : Int32) < (6 : Int32))).2.2.2) ?_
      show Steps pP.tables eE below (T214_.setTop (mkF mM 265 #[.val (.int p1), .val (.int p2), .val (.int p3), .val (.int p4), .val (.int (6 : Int32)), .val (.ref b1_), .val (.ref b174_), .val (.int vq), .val (.ref b_207_), .val (.int (1 : Int32)), .unset] [])) tT
      refine XS.aload X214_.here hx rfl (Jvm.hb hby at_265) rfl rfl ?_
      show Steps pP.tables eE below (T214_.setTop (mkF mM 267 #[.val (.int p1), .val (.int p2), .val (.int p3), .val (.int p4), .val (.int (6 : Int32)), .val (.ref b1_), .val (.ref b174_), .val (.int vq), .val (.ref b_207_), .val (.int (1 : Int32)), .unset] [(.ref b1_)])) tT
      refine XS.iload X214_.here hx rfl (Jvm.hb hby at_267) rfl ?_
      show Steps pP.tables eE below (T214_.setTop (mkF mM 269 #[.val (.int p1), .val (.int p2), .val (.int p3), .val (.int p4), .val (.int (6 : Int32)), .val (.ref b1_), .val (.ref b174_), .val (.int vq), .val (.ref b_207_), .val (.int (1 : Int32)), .unset] [(.int (6 : Int32)), (.ref b1_)])) tT
      refine XS.iconst X214_.here hx rfl (Jvm.hb hby at_269) ?_
      show Steps pP.tables eE below (T214_.setTop (mkF mM 270 #[.val (.int p1), .val (.int p2), .val (.int p3), .val (.int p4), .val (.int (6 : Int32)), .val (.ref b1_), .val (.ref b174_), .val (.int vq), .val (.ref b_207_), .val (.int (1 : Int32)), .unset] [(.int (1 : Int32)), (.int (6 : Int32)), (.ref b1_)])) tT
      refine XS.isub X214_.here hx rfl (Jvm.hb hby at_270) rfl ?_
      show Steps pP.tables eE below (T214_.setTop (mkF mM 271 #[.val (.int p1), .val (.int p2), .val (.int p3), .val (.int p4), .val (.int (6 : Int32)), .val (.ref b1_), .val (.ref b174_), .val (.int vq), .val (.ref b_207_), .val (.int (1 : Int32)), .unset] [(.int (5 : Int32)), (.ref b1_)])) tT
      exact kK
    obtain ⟨cl215_, Ar215_, qk215_, Sz215_, Nn215_, Hh215_, Gg215_⟩ := id fc210_
    have hin216_ : ¬ ((5 : Int32) < 0 ∨ cl215_.slots.size ≤ ((5 : Int32)).toNatClampNeg) := inb_of Sz215_ ⟨by decide, by decide⟩
    have hat216_ : cl215_.slots[((5 : Int32)).toNatClampNeg]? = some (.int x5) := Hh215_.at hin216_ rfl
    refine own_fin (b := T214_.setTop (mkF mM 287 #[.val (.int p1), .val (.int p2), .val (.int p3), .val (.int p4), .val (.int (6 : Int32)), .val (.ref b1_), .val (.ref b174_), .val (.int vq), .val (.ref b_207_), .val (.int (1 : Int32)), .val (.int (x5 &&& (255 : Int32)))] [(.int (x5 &&& (255 : Int32))), (.ref b_207_)])) (fun tT kK => ?_) ?_
    · show Steps pP.tables eE below (T214_.setTop (mkF mM 271 #[.val (.int p1), .val (.int p2), .val (.int p3), .val (.int p4), .val (.int (6 : Int32)), .val (.ref b1_), .val (.ref b174_), .val (.int vq), .val (.ref b_207_), .val (.int (1 : Int32)), .unset] [(.int (5 : Int32)), (.ref b1_)])) tT
      refine X214_.baloadBytes hx (j := (5 : Int32)) (v := (.int x5)) (own_rw p214__0 Ar215_.1) (State.isArrayOf_alike hZ.alike Ar215_.2.1) Ar215_.2.2 hin216_ hat216_ (g := (mkF mM 271 #[.val (.int p1), .val (.int p2), .val (.int p3), .val (.int p4), .val (.int (6 : Int32)), .val (.ref b1_), .val (.ref b174_), .val (.int vq), .val (.ref b_207_), .val (.int (1 : Int32)), .unset] [(.int (5 : Int32)), (.ref b1_)])) rfl rfl (Jvm.hb hby at_271) _ ?_
      show Steps pP.tables eE below (T214_.setTop (mkF mM 272 #[.val (.int p1), .val (.int p2), .val (.int p3), .val (.int p4), .val (.int (6 : Int32)), .val (.ref b1_), .val (.ref b174_), .val (.int vq), .val (.ref b_207_), .val (.int (1 : Int32)), .unset] [(.int x5)])) tT
      refine XS.sipush X214_.here hx rfl (Jvm.hb hby at_272) ?_
      show Steps pP.tables eE below (T214_.setTop (mkF mM 275 #[.val (.int p1), .val (.int p2), .val (.int p3), .val (.int p4), .val (.int (6 : Int32)), .val (.ref b1_), .val (.ref b174_), .val (.int vq), .val (.ref b_207_), .val (.int (1 : Int32)), .unset] [(.int (255 : Int32)), (.int x5)])) tT
      refine XS.iand X214_.here hx rfl (Jvm.hb hby at_275) rfl ?_
      show Steps pP.tables eE below (T214_.setTop (mkF mM 276 #[.val (.int p1), .val (.int p2), .val (.int p3), .val (.int p4), .val (.int (6 : Int32)), .val (.ref b1_), .val (.ref b174_), .val (.int vq), .val (.ref b_207_), .val (.int (1 : Int32)), .unset] [(.int (x5 &&& (255 : Int32)))])) tT
      refine XS.istore X214_.here hx rfl (Jvm.hb hby at_276) rfl (l' := #[.val (.int p1), .val (.int p2), .val (.int p3), .val (.int p4), .val (.int (6 : Int32)), .val (.ref b1_), .val (.ref b174_), .val (.int vq), .val (.ref b_207_), .val (.int (1 : Int32)), .val (.int (x5 &&& (255 : Int32)))]) rfl ?_
      show Steps pP.tables eE below (T214_.setTop (mkF mM 278 #[.val (.int p1), .val (.int p2), .val (.int p3), .val (.int p4), .val (.int (6 : Int32)), .val (.ref b1_), .val (.ref b174_), .val (.int vq), .val (.ref b_207_), .val (.int (1 : Int32)), .val (.int (x5 &&& (255 : Int32)))] [])) tT
      refine XS.iload X214_.here hx rfl (Jvm.hb hby at_278) rfl ?_
      show Steps pP.tables eE below (T214_.setTop (mkF mM 280 #[.val (.int p1), .val (.int p2), .val (.int p3), .val (.int p4), .val (.int (6 : Int32)), .val (.ref b1_), .val (.ref b174_), .val (.int vq), .val (.ref b_207_), .val (.int (1 : Int32)), .val (.int (x5 &&& (255 : Int32)))] [(.int (1 : Int32))])) tT
      refine XS.ifNo X214_.here hx rfl (Jvm.hb hby at_280) rfl ((if0 _ _).trans (feq ((by decide) : ¬ ((1 : Int32) = (0 : Int32)))).1) ?_
      show Steps pP.tables eE below (T214_.setTop (mkF mM 283 #[.val (.int p1), .val (.int p2), .val (.int p3), .val (.int p4), .val (.int (6 : Int32)), .val (.ref b1_), .val (.ref b174_), .val (.int vq), .val (.ref b_207_), .val (.int (1 : Int32)), .val (.int (x5 &&& (255 : Int32)))] [])) tT
      refine XS.aload X214_.here hx rfl (Jvm.hb hby at_283) rfl rfl ?_
      show Steps pP.tables eE below (T214_.setTop (mkF mM 285 #[.val (.int p1), .val (.int p2), .val (.int p3), .val (.int p4), .val (.int (6 : Int32)), .val (.ref b1_), .val (.ref b174_), .val (.int vq), .val (.ref b_207_), .val (.int (1 : Int32)), .val (.int (x5 &&& (255 : Int32)))] [(.ref b_207_)])) tT
      refine XS.iload X214_.here hx rfl (Jvm.hb hby at_285) rfl ?_
      show Steps pP.tables eE below (T214_.setTop (mkF mM 287 #[.val (.int p1), .val (.int p2), .val (.int p3), .val (.int p4), .val (.int (6 : Int32)), .val (.ref b1_), .val (.ref b174_), .val (.int vq), .val (.ref b_207_), .val (.int (1 : Int32)), .val (.int (x5 &&& (255 : Int32)))] [(.int (x5 &&& (255 : Int32))), (.ref b_207_)])) tT
      exact kK
    obtain ⟨cl217_, Ar217_, Sz217_, Nn217_, Hh217_⟩ := id p207__2
    have hin217_ : ¬ ((x5 &&& (255 : Int32)) < 0 ∨ cl217_.slots.size ≤ ((x5 &&& (255 : Int32))).toNatClampNeg) := inb_of Sz217_ (own_m255 x5)
    have hat217_ : cl217_.slots[((x5 &&& (255 : Int32))).toNatClampNeg]? = some (.int ((own_ft ([x0, x1, x2, x3, x4, x5] : List Int32) (6 : Int32).toNatClampNeg) (x5 &&& (255 : Int32)))) := Hh217_ _ hin217_
    refine own_fin (b := T214_.setTop (mkF mM 304 #[.val (.int p1), .val (.int p2), .val (.int p3), .val (.int p4), .val (.int (6 : Int32)), .val (.ref b1_), .val (.ref b174_), .val (.int vq), .val (.ref b_207_), .val (.int (1 : Int32)), .val (.int (x5 &&& (255 : Int32)))] [(.int (1 : Int32))])) (fun tT kK => ?_) ?_
    · show Steps pP.tables eE below (T214_.setTop (mkF mM 287 #[.val (.int p1), .val (.int p2), .val (.int p3), .val (.int p4), .val (.int (6 : Int32)), .val (.ref b1_), .val (.ref b174_), .val (.int vq), .val (.ref b_207_), .val (.int (1 : Int32)), .val (.int (x5 &&& (255 : Int32)))] [(.int (x5 &&& (255 : Int32))), (.ref b_207_)])) tT
      refine X214_.iaload hx (j := (x5 &&& (255 : Int32))) (v := (.int ((own_ft ([x0, x1, x2, x3, x4, x5] : List Int32) (6 : Int32).toNatClampNeg) (x5 &&& (255 : Int32))))) (own_rw p214__0 Ar217_.1) (State.isArrayOf_alike hZ.alike Ar217_.2.1) Ar217_.2.2 hin217_ hat217_ (g := (mkF mM 287 #[.val (.int p1), .val (.int p2), .val (.int p3), .val (.int p4), .val (.int (6 : Int32)), .val (.ref b1_), .val (.ref b174_), .val (.int vq), .val (.ref b_207_), .val (.int (1 : Int32)), .val (.int (x5 &&& (255 : Int32)))] [(.int (x5 &&& (255 : Int32))), (.ref b_207_)])) rfl rfl (Jvm.hb hby at_287) _ ?_
      show Steps pP.tables eE below (T214_.setTop (mkF mM 288 #[.val (.int p1), .val (.int p2), .val (.int p3), .val (.int p4), .val (.int (6 : Int32)), .val (.ref b1_), .val (.ref b174_), .val (.int vq), .val (.ref b_207_), .val (.int (1 : Int32)), .val (.int (x5 &&& (255 : Int32)))] [(.int ((own_ft ([x0, x1, x2, x3, x4, x5] : List Int32) (6 : Int32).toNatClampNeg) (x5 &&& (255 : Int32))))])) tT
      refine XS.iload X214_.here hx rfl (Jvm.hb hby at_288) rfl ?_
      show Steps pP.tables eE below (T214_.setTop (mkF mM 290 #[.val (.int p1), .val (.int p2), .val (.int p3), .val (.int p4), .val (.int (6 : Int32)), .val (.ref b1_), .val (.ref b174_), .val (.int vq), .val (.ref b_207_), .val (.int (1 : Int32)), .val (.int (x5 &&& (255 : Int32)))] [(.int (6 : Int32)), (.int ((own_ft ([x0, x1, x2, x3, x4, x5] : List Int32) (6 : Int32).toNatClampNeg) (x5 &&& (255 : Int32))))])) tT
      refine XS.iconst X214_.here hx rfl (Jvm.hb hby at_290) ?_
      show Steps pP.tables eE below (T214_.setTop (mkF mM 291 #[.val (.int p1), .val (.int p2), .val (.int p3), .val (.int p4), .val (.int (6 : Int32)), .val (.ref b1_), .val (.ref b174_), .val (.int vq), .val (.ref b_207_), .val (.int (1 : Int32)), .val (.int (x5 &&& (255 : Int32)))] [(.int (1 : Int32)), (.int (6 : Int32)), (.int ((own_ft ([x0, x1, x2, x3, x4, x5] : List Int32) (6 : Int32).toNatClampNeg) (x5 &&& (255 : Int32))))])) tT
      refine XS.isub X214_.here hx rfl (Jvm.hb hby at_291) rfl ?_
      show Steps pP.tables eE below (T214_.setTop (mkF mM 292 #[.val (.int p1), .val (.int p2), .val (.int p3), .val (.int p4), .val (.int (6 : Int32)), .val (.ref b1_), .val (.ref b174_), .val (.int vq), .val (.ref b_207_), .val (.int (1 : Int32)), .val (.int (x5 &&& (255 : Int32)))] [(.int (5 : Int32)), (.int ((own_ft ([x0, x1, x2, x3, x4, x5] : List Int32) (6 : Int32).toNatClampNeg) (x5 &&& (255 : Int32))))])) tT
      refine XS.icmpNo X214_.here hx rfl (Jvm.hb hby at_292) rfl (teq (own_last ([x0, x1, x2, x3, x4, x5] : List Int32) 5 : ((own_ft ([x0, x1, x2, x3, x4, x5] : List Int32) (6 : Int32).toNatClampNeg) (x5 &&& (255 : Int32))) = (5 : Int32))).2 ?_
      show Steps pP.tables eE below (T214_.setTop (mkF mM 295 #[.val (.int p1), .val (.int p2), .val (.int p3), .val (.int p4), .val (.int (6 : Int32)), .val (.ref b1_), .val (.ref b174_), .val (.int vq), .val (.ref b_207_), .val (.int (1 : Int32)), .val (.int (x5 &&& (255 : Int32)))] [])) tT
      refine XS.iconst X214_.here hx rfl (Jvm.hb hby at_295) ?_
      show Steps pP.tables eE below (T214_.setTop (mkF mM 296 #[.val (.int p1), .val (.int p2), .val (.int p3), .val (.int p4), .val (.int (6 : Int32)), .val (.ref b1_), .val (.ref b174_), .val (.int vq), .val (.ref b_207_), .val (.int (1 : Int32)), .val (.int (x5 &&& (255 : Int32)))] [(.int (1 : Int32))])) tT
      refine XS.goto X214_.here hx rfl (pc0 := 296) (pc' := 300) rfl (Jvm.hb hby at_296) (by decide) (by decide) ?_
      show Steps pP.tables eE below (T214_.setTop (mkF mM 300 #[.val (.int p1), .val (.int p2), .val (.int p3), .val (.int p4), .val (.int (6 : Int32)), .val (.ref b1_), .val (.ref b174_), .val (.int vq), .val (.ref b_207_), .val (.int (1 : Int32)), .val (.int (x5 &&& (255 : Int32)))] [(.int (1 : Int32))])) tT
      refine XS.istore X214_.here hx rfl (Jvm.hb hby at_300) rfl (l' := #[.val (.int p1), .val (.int p2), .val (.int p3), .val (.int p4), .val (.int (6 : Int32)), .val (.ref b1_), .val (.ref b174_), .val (.int vq), .val (.ref b_207_), .val (.int (1 : Int32)), .val (.int (x5 &&& (255 : Int32)))]) rfl ?_
      show Steps pP.tables eE below (T214_.setTop (mkF mM 302 #[.val (.int p1), .val (.int p2), .val (.int p3), .val (.int p4), .val (.int (6 : Int32)), .val (.ref b1_), .val (.ref b174_), .val (.int vq), .val (.ref b_207_), .val (.int (1 : Int32)), .val (.int (x5 &&& (255 : Int32)))] [])) tT
      refine XS.iload X214_.here hx rfl (Jvm.hb hby at_302) rfl ?_
      show Steps pP.tables eE below (T214_.setTop (mkF mM 304 #[.val (.int p1), .val (.int p2), .val (.int p3), .val (.int p4), .val (.int (6 : Int32)), .val (.ref b1_), .val (.ref b174_), .val (.int vq), .val (.ref b_207_), .val (.int (1 : Int32)), .val (.int (x5 &&& (255 : Int32)))] [(.int (1 : Int32))])) tT
      exact kK
    obtain ⟨fs, hr, hrun, hended, hW, hsame⟩ := X214_.leave (v := some (.int (1 : Int32))) (fun h => by rw [Bd.returns] at h; cases h)
    refine ⟨_, _, ?_, hrun, hended, _, _, rfl, ?_, ⟨_, rfl⟩, hW, hsame.mono (by decide) (by decide)⟩
    · show Steps pP.tables eE below (T214_.setTop (mkF mM 304 #[.val (.int p1), .val (.int p2), .val (.int p3), .val (.int p4), .val (.int (6 : Int32)), .val (.ref b1_), .val (.ref b174_), .val (.int vq), .val (.ref b_207_), .val (.int (1 : Int32)), .val (.int (x5 &&& (255 : Int32)))] [(.int (1 : Int32))])) _
      exact retN X214_ hx (t := .boolean) Bd.returns (by simp) (Jvm.hb hby at_304) hr
    · show Q_rm0 Z p1 p2 p3 p4 h0 n0 _ T214_.heap _
      rw [p214__0]
      exact ⟨rfl, N214_⟩
  · show own_Fin pP eE below _ (T17_.setTop (mkF mM 83 #[.val (.int p1), .val (.int p2), .val (.int p3), .val (.int p4), .val (.int (7 : Int32)), .val (.ref b1_), .unset, .unset, .unset, .unset, .unset] []))
    refine own_fin (b := T17_.setTop (mkF mM 85 #[.val (.int p1), .val (.int p2), .val (.int p3), .val (.int p4), .val (.int (7 : Int32)), .val (.ref b1_), .unset, .unset, .unset, .unset, .unset] [(.int (7 : Int32))])) (fun tT kK => ?_) ?_
    · show Steps pP.tables eE below (T17_.setTop (mkF mM 83 #[.val (.int p1), .val (.int p2), .val (.int p3), .val (.int p4), .val (.int (7 : Int32)), .val (.ref b1_), .unset, .unset, .unset, .unset, .unset] [])) tT
      refine XS.iload X17_.here hx rfl (Jvm.hb hby at_83) rfl ?_
      show Steps pP.tables eE below (T17_.setTop (mkF mM 85 #[.val (.int p1), .val (.int p2), .val (.int p3), .val (.int p4), .val (.int (7 : Int32)), .val (.ref b1_), .unset, .unset, .unset, .unset, .unset] [(.int (7 : Int32))])) tT
      exact kK
    obtain ⟨T218_, h218_, k218_, X218_, e218_, E218_, A218_, st218_⟩ := newP X17_ hx hZ (hw _ (List.mem_of_getElem? (i := 0) rfl)) e17_ (g := (mkF mM 85 #[.val (.int p1), .val (.int p2), .val (.int p3), .val (.int p4), .val (.int (7 : Int32)), .val (.ref b1_), .unset, .unset, .unset, .unset, .unset] [(.int (7 : Int32))])) rfl (Jvm.hb hby at_85) rfl (by decide) (cap := 7) (by decide) (by decide) (by decide) (by decide)
    obtain ⟨b218_, g218_⟩ : ∃ z, z = h17_.size := ⟨_, rfl⟩
    rw [← g218_] at A218_ st218_
    have sz_b218_ : h0.size ≤ b218_ := Nat.le_trans K17_.1 (Nat.le_of_eq g218_.symm)
    have ge_b218_ : n0 ≤ b218_ := Nat.le_trans Z0 sz_b218_
    have ne219_ : b1_ ≠ b218_ := Nat.ne_of_lt (Nat.lt_of_lt_of_le V17_.lt (Nat.le_of_eq g218_.symm))
    have fc220_ := V17_.ext E218_
    have K218_ := K17_.ext E218_
    have V218_ : Arv Z h218_ b218_ k218_ .byte (7 : Int32) [(.int (0 : Int32)), (.int (0 : Int32)), (.int (0 : Int32)), (.int (0 : Int32)), (.int (0 : Int32)), (.int (0 : Int32)), (.int (0 : Int32))] (.int (0 : Int32)) := (Arv.new A218_ (by decide)).pad (pad_rep [] (.int (0 : Int32)) 7)
    refine own_fin st218_ ?_
    show own_Fin pP eE below _ (T218_.setTop (mkF mM 87 #[.val (.int p1), .val (.int p2), .val (.int p3), .val (.int p4), .val (.int (7 : Int32)), .val (.ref b1_), .unset, .unset, .unset, .unset, .unset] [(.ref b218_)]))
    refine own_fin (b := T218_.setTop (mkF mM 100 #[.val (.int p1), .val (.int p2), .val (.int p3), .val (.int p4), .val (.int (7 : Int32)), .val (.ref b1_), .val (.ref b218_), .unset, .unset, .unset, .unset] [(.int (0 : Int32)), (.ref b1_), (.int (0 : Int32)), (.ref b218_)])) (fun tT kK => ?_) ?_
    · show Steps pP.tables eE below (T218_.setTop (mkF mM 87 #[.val (.int p1), .val (.int p2), .val (.int p3), .val (.int p4), .val (.int (7 : Int32)), .val (.ref b1_), .unset, .unset, .unset, .unset, .unset] [(.ref b218_)])) tT
      refine XS.astore X218_.here hx rfl (Jvm.hb hby at_87) rfl rfl (l' := #[.val (.int p1), .val (.int p2), .val (.int p3), .val (.int p4), .val (.int (7 : Int32)), .val (.ref b1_), .val (.ref b218_), .unset, .unset, .unset, .unset]) rfl ?_
      show Steps pP.tables eE below (T218_.setTop (mkF mM 89 #[.val (.int p1), .val (.int p2), .val (.int p3), .val (.int p4), .val (.int (7 : Int32)), .val (.ref b1_), .val (.ref b218_), .unset, .unset, .unset, .unset] [])) tT
      refine XS.iload X218_.here hx rfl (Jvm.hb hby at_89) rfl ?_
      show Steps pP.tables eE below (T218_.setTop (mkF mM 91 #[.val (.int p1), .val (.int p2), .val (.int p3), .val (.int p4), .val (.int (7 : Int32)), .val (.ref b1_), .val (.ref b218_), .unset, .unset, .unset, .unset] [(.int (7 : Int32))])) tT
      refine XS.ifNo X218_.here hx rfl (Jvm.hb hby at_91) rfl ((if0 _ _).trans (tlt ((by decide) : (0 : Int32) < (7 : Int32))).2.2.2) ?_
      show Steps pP.tables eE below (T218_.setTop (mkF mM 94 #[.val (.int p1), .val (.int p2), .val (.int p3), .val (.int p4), .val (.int (7 : Int32)), .val (.ref b1_), .val (.ref b218_), .unset, .unset, .unset, .unset] [])) tT
      refine XS.aload X218_.here hx rfl (Jvm.hb hby at_94) rfl rfl ?_
      show Steps pP.tables eE below (T218_.setTop (mkF mM 96 #[.val (.int p1), .val (.int p2), .val (.int p3), .val (.int p4), .val (.int (7 : Int32)), .val (.ref b1_), .val (.ref b218_), .unset, .unset, .unset, .unset] [(.ref b218_)])) tT
      refine XS.iconst X218_.here hx rfl (Jvm.hb hby at_96) ?_
      show Steps pP.tables eE below (T218_.setTop (mkF mM 97 #[.val (.int p1), .val (.int p2), .val (.int p3), .val (.int p4), .val (.int (7 : Int32)), .val (.ref b1_), .val (.ref b218_), .unset, .unset, .unset, .unset] [(.int (0 : Int32)), (.ref b218_)])) tT
      refine XS.aload X218_.here hx rfl (Jvm.hb hby at_97) rfl rfl ?_
      show Steps pP.tables eE below (T218_.setTop (mkF mM 99 #[.val (.int p1), .val (.int p2), .val (.int p3), .val (.int p4), .val (.int (7 : Int32)), .val (.ref b1_), .val (.ref b218_), .unset, .unset, .unset, .unset] [(.ref b1_), (.int (0 : Int32)), (.ref b218_)])) tT
      refine XS.iconst X218_.here hx rfl (Jvm.hb hby at_99) ?_
      show Steps pP.tables eE below (T218_.setTop (mkF mM 100 #[.val (.int p1), .val (.int p2), .val (.int p3), .val (.int p4), .val (.int (7 : Int32)), .val (.ref b1_), .val (.ref b218_), .unset, .unset, .unset, .unset] [(.int (0 : Int32)), (.ref b1_), (.int (0 : Int32)), (.ref b218_)])) tT
      exact kK
    obtain ⟨cl221_, Ar221_, qk221_, Sz221_, Nn221_, Hh221_, Gg221_⟩ := id fc220_
    have hin222_ : ¬ ((0 : Int32) < 0 ∨ cl221_.slots.size ≤ ((0 : Int32)).toNatClampNeg) := inb_of Sz221_ ⟨by decide, by decide⟩
    have hat222_ : cl221_.slots[((0 : Int32)).toNatClampNeg]? = some (.int x0) := Hh221_.at hin222_ rfl
    refine own_fin (b := T218_.setTop (mkF mM 101 #[.val (.int p1), .val (.int p2), .val (.int p3), .val (.int p4), .val (.int (7 : Int32)), .val (.ref b1_), .val (.ref b218_), .unset, .unset, .unset, .unset] [(.int x0), (.int (0 : Int32)), (.ref b218_)])) (fun tT kK => ?_) ?_
    · show Steps pP.tables eE below (T218_.setTop (mkF mM 100 #[.val (.int p1), .val (.int p2), .val (.int p3), .val (.int p4), .val (.int (7 : Int32)), .val (.ref b1_), .val (.ref b218_), .unset, .unset, .unset, .unset] [(.int (0 : Int32)), (.ref b1_), (.int (0 : Int32)), (.ref b218_)])) tT
      refine X218_.baloadBytes hx (j := (0 : Int32)) (v := (.int x0)) (own_rw e218_ Ar221_.1) (State.isArrayOf_alike hZ.alike Ar221_.2.1) Ar221_.2.2 hin222_ hat222_ (g := (mkF mM 100 #[.val (.int p1), .val (.int p2), .val (.int p3), .val (.int p4), .val (.int (7 : Int32)), .val (.ref b1_), .val (.ref b218_), .unset, .unset, .unset, .unset] [(.int (0 : Int32)), (.ref b1_), (.int (0 : Int32)), (.ref b218_)])) rfl rfl (Jvm.hb hby at_100) _ ?_
      show Steps pP.tables eE below (T218_.setTop (mkF mM 101 #[.val (.int p1), .val (.int p2), .val (.int p3), .val (.int p4), .val (.int (7 : Int32)), .val (.ref b1_), .val (.ref b218_), .unset, .unset, .unset, .unset] [(.int x0), (.int (0 : Int32)), (.ref b218_)])) tT
      exact kK
    obtain ⟨cl223_, Ar223_, qk223_, Sz223_, Nn223_, Hh223_, Gg223_⟩ := id V218_
    have hin224_ : ¬ ((0 : Int32) < 0 ∨ cl223_.slots.size ≤ ((0 : Int32)).toNatClampNeg) := inb_of Sz223_ ⟨by decide, by decide⟩
    obtain ⟨T224_, h224_, X224_, e224_, W224_, st224_⟩ := stB X218_ hx hZ e218_ Ar223_ (j := (0 : Int32)) hin224_ (g := (mkF mM 101 #[.val (.int p1), .val (.int p2), .val (.int p3), .val (.int p4), .val (.int (7 : Int32)), .val (.ref b1_), .val (.ref b218_), .unset, .unset, .unset, .unset] [(.int x0), (.int (0 : Int32)), (.ref b218_)])) rfl rfl (Jvm.hb hby at_101)
    have V224_ : Arv Z h224_ b218_ k218_ .byte (7 : Int32) [(.int (nar .byte x0)), (.int (0 : Int32)), (.int (0 : Int32)), (.int (0 : Int32)), (.int (0 : Int32)), (.int (0 : Int32)), (.int (0 : Int32))] (.int (0 : Int32)) := Arv.set Ar223_ qk223_ Sz223_ Nn223_ Hh223_ Gg223_ (fits_nar_byte _) W224_ 0 rfl (Nat.le_of_ble_eq_true rfl)
    have fc225_ := fc220_.other W224_ ne219_
    have K224_ := K218_.wr W224_ (Or.inr sz_b218_)
    have N224_ := Fr.snoc X224_ N17_ ge_b218_
    refine own_fin st224_ ?_
    show own_Fin pP eE below _ (T224_.setTop (mkF mM 102 #[.val (.int p1), .val (.int p2), .val (.int p3), .val (.int p4), .val (.int (7 : Int32)), .val (.ref b1_), .val (.ref b218_), .unset, .unset, .unset, .unset] []))
    refine own_fin (b := T224_.setTop (mkF mM 114 #[.val (.int p1), .val (.int p2), .val (.int p3), .val (.int p4), .val (.int (7 : Int32)), .val (.ref b1_), .val (.ref b218_), .unset, .unset, .unset, .unset] [(.int (1 : Int32)), (.ref b1_), (.int (1 : Int32)), (.ref b218_)])) (fun tT kK => ?_) ?_
    · show Steps pP.tables eE below (T224_.setTop (mkF mM 102 #[.val (.int p1), .val (.int p2), .val (.int p3), .val (.int p4), .val (.int (7 : Int32)), .val (.ref b1_), .val (.ref b218_), .unset, .unset, .unset, .unset] [])) tT
      refine XS.iload X224_.here hx rfl (Jvm.hb hby at_102) rfl ?_
      show Steps pP.tables eE below (T224_.setTop (mkF mM 104 #[.val (.int p1), .val (.int p2), .val (.int p3), .val (.int p4), .val (.int (7 : Int32)), .val (.ref b1_), .val (.ref b218_), .unset, .unset, .unset, .unset] [(.int (7 : Int32))])) tT
      refine XS.iconst X224_.here hx rfl (Jvm.hb hby at_104) ?_
      show Steps pP.tables eE below (T224_.setTop (mkF mM 105 #[.val (.int p1), .val (.int p2), .val (.int p3), .val (.int p4), .val (.int (7 : Int32)), .val (.ref b1_), .val (.ref b218_), .unset, .unset, .unset, .unset] [(.int (1 : Int32)), (.int (7 : Int32))])) tT
      refine XS.icmpNo X224_.here hx rfl (Jvm.hb hby at_105) rfl (tlt ((by decide) : (1 : Int32) < (7 : Int32))).2.2.2 ?_
      show Steps pP.tables eE below (T224_.setTop (mkF mM 108 #[.val (.int p1), .val (.int p2), .val (.int p3), .val (.int p4), .val (.int (7 : Int32)), .val (.ref b1_), .val (.ref b218_), .unset, .unset, .unset, .unset] [])) tT
      refine XS.aload X224_.here hx rfl (Jvm.hb hby at_108) rfl rfl ?_
      show Steps pP.tables eE below (T224_.setTop (mkF mM 110 #[.val (.int p1), .val (.int p2), .val (.int p3), .val (.int p4), .val (.int (7 : Int32)), .val (.ref b1_), .val (.ref b218_), .unset, .unset, .unset, .unset] [(.ref b218_)])) tT
      refine XS.iconst X224_.here hx rfl (Jvm.hb hby at_110) ?_
      show Steps pP.tables eE below (T224_.setTop (mkF mM 111 #[.val (.int p1), .val (.int p2), .val (.int p3), .val (.int p4), .val (.int (7 : Int32)), .val (.ref b1_), .val (.ref b218_), .unset, .unset, .unset, .unset] [(.int (1 : Int32)), (.ref b218_)])) tT
      refine XS.aload X224_.here hx rfl (Jvm.hb hby at_111) rfl rfl ?_
      show Steps pP.tables eE below (T224_.setTop (mkF mM 113 #[.val (.int p1), .val (.int p2), .val (.int p3), .val (.int p4), .val (.int (7 : Int32)), .val (.ref b1_), .val (.ref b218_), .unset, .unset, .unset, .unset] [(.ref b1_), (.int (1 : Int32)), (.ref b218_)])) tT
      refine XS.iconst X224_.here hx rfl (Jvm.hb hby at_113) ?_
      show Steps pP.tables eE below (T224_.setTop (mkF mM 114 #[.val (.int p1), .val (.int p2), .val (.int p3), .val (.int p4), .val (.int (7 : Int32)), .val (.ref b1_), .val (.ref b218_), .unset, .unset, .unset, .unset] [(.int (1 : Int32)), (.ref b1_), (.int (1 : Int32)), (.ref b218_)])) tT
      exact kK
    obtain ⟨cl226_, Ar226_, qk226_, Sz226_, Nn226_, Hh226_, Gg226_⟩ := id fc225_
    have hin227_ : ¬ ((1 : Int32) < 0 ∨ cl226_.slots.size ≤ ((1 : Int32)).toNatClampNeg) := inb_of Sz226_ ⟨by decide, by decide⟩
    have hat227_ : cl226_.slots[((1 : Int32)).toNatClampNeg]? = some (.int x1) := Hh226_.at hin227_ rfl
    refine own_fin (b := T224_.setTop (mkF mM 115 #[.val (.int p1), .val (.int p2), .val (.int p3), .val (.int p4), .val (.int (7 : Int32)), .val (.ref b1_), .val (.ref b218_), .unset, .unset, .unset, .unset] [(.int x1), (.int (1 : Int32)), (.ref b218_)])) (fun tT kK => ?_) ?_
    · show Steps pP.tables eE below (T224_.setTop (mkF mM 114 #[.val (.int p1), .val (.int p2), .val (.int p3), .val (.int p4), .val (.int (7 : Int32)), .val (.ref b1_), .val (.ref b218_), .unset, .unset, .unset, .unset] [(.int (1 : Int32)), (.ref b1_), (.int (1 : Int32)), (.ref b218_)])) tT
      refine X224_.baloadBytes hx (j := (1 : Int32)) (v := (.int x1)) (own_rw e224_ Ar226_.1) (State.isArrayOf_alike hZ.alike Ar226_.2.1) Ar226_.2.2 hin227_ hat227_ (g := (mkF mM 114 #[.val (.int p1), .val (.int p2), .val (.int p3), .val (.int p4), .val (.int (7 : Int32)), .val (.ref b1_), .val (.ref b218_), .unset, .unset, .unset, .unset] [(.int (1 : Int32)), (.ref b1_), (.int (1 : Int32)), (.ref b218_)])) rfl rfl (Jvm.hb hby at_114) _ ?_
      show Steps pP.tables eE below (T224_.setTop (mkF mM 115 #[.val (.int p1), .val (.int p2), .val (.int p3), .val (.int p4), .val (.int (7 : Int32)), .val (.ref b1_), .val (.ref b218_), .unset, .unset, .unset, .unset] [(.int x1), (.int (1 : Int32)), (.ref b218_)])) tT
      exact kK
    obtain ⟨cl228_, Ar228_, qk228_, Sz228_, Nn228_, Hh228_, Gg228_⟩ := id V224_
    have hin229_ : ¬ ((1 : Int32) < 0 ∨ cl228_.slots.size ≤ ((1 : Int32)).toNatClampNeg) := inb_of Sz228_ ⟨by decide, by decide⟩
    obtain ⟨T229_, h229_, X229_, e229_, W229_, st229_⟩ := stB X224_ hx hZ e224_ Ar228_ (j := (1 : Int32)) hin229_ (g := (mkF mM 115 #[.val (.int p1), .val (.int p2), .val (.int p3), .val (.int p4), .val (.int (7 : Int32)), .val (.ref b1_), .val (.ref b218_), .unset, .unset, .unset, .unset] [(.int x1), (.int (1 : Int32)), (.ref b218_)])) rfl rfl (Jvm.hb hby at_115)
    have V229_ : Arv Z h229_ b218_ k218_ .byte (7 : Int32) [(.int (nar .byte x0)), (.int (nar .byte x1)), (.int (0 : Int32)), (.int (0 : Int32)), (.int (0 : Int32)), (.int (0 : Int32)), (.int (0 : Int32))] (.int (0 : Int32)) := Arv.set Ar228_ qk228_ Sz228_ Nn228_ Hh228_ Gg228_ (fits_nar_byte _) W229_ 1 rfl (Nat.le_of_ble_eq_true rfl)
    have fc230_ := fc225_.other W229_ ne219_
    have K229_ := K224_.wr W229_ (Or.inr sz_b218_)
    have N229_ := Fr.snoc X229_ N224_ ge_b218_
    refine own_fin st229_ ?_
    show own_Fin pP eE below _ (T229_.setTop (mkF mM 116 #[.val (.int p1), .val (.int p2), .val (.int p3), .val (.int p4), .val (.int (7 : Int32)), .val (.ref b1_), .val (.ref b218_), .unset, .unset, .unset, .unset] []))
    refine own_fin (b := T229_.setTop (mkF mM 128 #[.val (.int p1), .val (.int p2), .val (.int p3), .val (.int p4), .val (.int (7 : Int32)), .val (.ref b1_), .val (.ref b218_), .unset, .unset, .unset, .unset] [(.int (2 : Int32)), (.ref b1_), (.int (2 : Int32)), (.ref b218_)])) (fun tT kK => ?_) ?_
    · show Steps pP.tables eE below (T229_.setTop (mkF mM 116 #[.val (.int p1), .val (.int p2), .val (.int p3), .val (.int p4), .val (.int (7 : Int32)), .val (.ref b1_), .val (.ref b218_), .unset, .unset, .unset, .unset] [])) tT
      refine XS.iload X229_.here hx rfl (Jvm.hb hby at_116) rfl ?_
      show Steps pP.tables eE below (T229_.setTop (mkF mM 118 #[.val (.int p1), .val (.int p2), .val (.int p3), .val (.int p4), .val (.int (7 : Int32)), .val (.ref b1_), .val (.ref b218_), .unset, .unset, .unset, .unset] [(.int (7 : Int32))])) tT
      refine XS.iconst X229_.here hx rfl (Jvm.hb hby at_118) ?_
      show Steps pP.tables eE below (T229_.setTop (mkF mM 119 #[.val (.int p1), .val (.int p2), .val (.int p3), .val (.int p4), .val (.int (7 : Int32)), .val (.ref b1_), .val (.ref b218_), .unset, .unset, .unset, .unset] [(.int (2 : Int32)), (.int (7 : Int32))])) tT
      refine XS.icmpNo X229_.here hx rfl (Jvm.hb hby at_119) rfl (tlt ((by decide) : (2 : Int32) < (7 : Int32))).2.2.2 ?_
      show Steps pP.tables eE below (T229_.setTop (mkF mM 122 #[.val (.int p1), .val (.int p2), .val (.int p3), .val (.int p4), .val (.int (7 : Int32)), .val (.ref b1_), .val (.ref b218_), .unset, .unset, .unset, .unset] [])) tT
      refine XS.aload X229_.here hx rfl (Jvm.hb hby at_122) rfl rfl ?_
      show Steps pP.tables eE below (T229_.setTop (mkF mM 124 #[.val (.int p1), .val (.int p2), .val (.int p3), .val (.int p4), .val (.int (7 : Int32)), .val (.ref b1_), .val (.ref b218_), .unset, .unset, .unset, .unset] [(.ref b218_)])) tT
      refine XS.iconst X229_.here hx rfl (Jvm.hb hby at_124) ?_
      show Steps pP.tables eE below (T229_.setTop (mkF mM 125 #[.val (.int p1), .val (.int p2), .val (.int p3), .val (.int p4), .val (.int (7 : Int32)), .val (.ref b1_), .val (.ref b218_), .unset, .unset, .unset, .unset] [(.int (2 : Int32)), (.ref b218_)])) tT
      refine XS.aload X229_.here hx rfl (Jvm.hb hby at_125) rfl rfl ?_
      show Steps pP.tables eE below (T229_.setTop (mkF mM 127 #[.val (.int p1), .val (.int p2), .val (.int p3), .val (.int p4), .val (.int (7 : Int32)), .val (.ref b1_), .val (.ref b218_), .unset, .unset, .unset, .unset] [(.ref b1_), (.int (2 : Int32)), (.ref b218_)])) tT
      refine XS.iconst X229_.here hx rfl (Jvm.hb hby at_127) ?_
      show Steps pP.tables eE below (T229_.setTop (mkF mM 128 #[.val (.int p1), .val (.int p2), .val (.int p3), .val (.int p4), .val (.int (7 : Int32)), .val (.ref b1_), .val (.ref b218_), .unset, .unset, .unset, .unset] [(.int (2 : Int32)), (.ref b1_), (.int (2 : Int32)), (.ref b218_)])) tT
      exact kK
    obtain ⟨cl231_, Ar231_, qk231_, Sz231_, Nn231_, Hh231_, Gg231_⟩ := id fc230_
    have hin232_ : ¬ ((2 : Int32) < 0 ∨ cl231_.slots.size ≤ ((2 : Int32)).toNatClampNeg) := inb_of Sz231_ ⟨by decide, by decide⟩
    have hat232_ : cl231_.slots[((2 : Int32)).toNatClampNeg]? = some (.int x2) := Hh231_.at hin232_ rfl
    refine own_fin (b := T229_.setTop (mkF mM 129 #[.val (.int p1), .val (.int p2), .val (.int p3), .val (.int p4), .val (.int (7 : Int32)), .val (.ref b1_), .val (.ref b218_), .unset, .unset, .unset, .unset] [(.int x2), (.int (2 : Int32)), (.ref b218_)])) (fun tT kK => ?_) ?_
    · show Steps pP.tables eE below (T229_.setTop (mkF mM 128 #[.val (.int p1), .val (.int p2), .val (.int p3), .val (.int p4), .val (.int (7 : Int32)), .val (.ref b1_), .val (.ref b218_), .unset, .unset, .unset, .unset] [(.int (2 : Int32)), (.ref b1_), (.int (2 : Int32)), (.ref b218_)])) tT
      refine X229_.baloadBytes hx (j := (2 : Int32)) (v := (.int x2)) (own_rw e229_ Ar231_.1) (State.isArrayOf_alike hZ.alike Ar231_.2.1) Ar231_.2.2 hin232_ hat232_ (g := (mkF mM 128 #[.val (.int p1), .val (.int p2), .val (.int p3), .val (.int p4), .val (.int (7 : Int32)), .val (.ref b1_), .val (.ref b218_), .unset, .unset, .unset, .unset] [(.int (2 : Int32)), (.ref b1_), (.int (2 : Int32)), (.ref b218_)])) rfl rfl (Jvm.hb hby at_128) _ ?_
      show Steps pP.tables eE below (T229_.setTop (mkF mM 129 #[.val (.int p1), .val (.int p2), .val (.int p3), .val (.int p4), .val (.int (7 : Int32)), .val (.ref b1_), .val (.ref b218_), .unset, .unset, .unset, .unset] [(.int x2), (.int (2 : Int32)), (.ref b218_)])) tT
      exact kK
    obtain ⟨cl233_, Ar233_, qk233_, Sz233_, Nn233_, Hh233_, Gg233_⟩ := id V229_
    have hin234_ : ¬ ((2 : Int32) < 0 ∨ cl233_.slots.size ≤ ((2 : Int32)).toNatClampNeg) := inb_of Sz233_ ⟨by decide, by decide⟩
    obtain ⟨T234_, h234_, X234_, e234_, W234_, st234_⟩ := stB X229_ hx hZ e229_ Ar233_ (j := (2 : Int32)) hin234_ (g := (mkF mM 129 #[.val (.int p1), .val (.int p2), .val (.int p3), .val (.int p4), .val (.int (7 : Int32)), .val (.ref b1_), .val (.ref b218_), .unset, .unset, .unset, .unset] [(.int x2), (.int (2 : Int32)), (.ref b218_)])) rfl rfl (Jvm.hb hby at_129)
    have V234_ : Arv Z h234_ b218_ k218_ .byte (7 : Int32) [(.int (nar .byte x0)), (.int (nar .byte x1)), (.int (nar .byte x2)), (.int (0 : Int32)), (.int (0 : Int32)), (.int (0 : Int32)), (.int (0 : Int32))] (.int (0 : Int32)) := Arv.set Ar233_ qk233_ Sz233_ Nn233_ Hh233_ Gg233_ (fits_nar_byte _) W234_ 2 rfl (Nat.le_of_ble_eq_true rfl)
    have fc235_ := fc230_.other W234_ ne219_
    have K234_ := K229_.wr W234_ (Or.inr sz_b218_)
    have N234_ := Fr.snoc X234_ N229_ ge_b218_
    refine own_fin st234_ ?_
    show own_Fin pP eE below _ (T234_.setTop (mkF mM 130 #[.val (.int p1), .val (.int p2), .val (.int p3), .val (.int p4), .val (.int (7 : Int32)), .val (.ref b1_), .val (.ref b218_), .unset, .unset, .unset, .unset] []))
    refine own_fin (b := T234_.setTop (mkF mM 142 #[.val (.int p1), .val (.int p2), .val (.int p3), .val (.int p4), .val (.int (7 : Int32)), .val (.ref b1_), .val (.ref b218_), .unset, .unset, .unset, .unset] [(.int (3 : Int32)), (.ref b1_), (.int (3 : Int32)), (.ref b218_)])) (fun tT kK => ?_) ?_
    · show Steps pP.tables eE below (T234_.setTop (mkF mM 130 #[.val (.int p1), .val (.int p2), .val (.int p3), .val (.int p4), .val (.int (7 : Int32)), .val (.ref b1_), .val (.ref b218_), .unset, .unset, .unset, .unset] [])) tT
      refine XS.iload X234_.here hx rfl (Jvm.hb hby at_130) rfl ?_
      show Steps pP.tables eE below (T234_.setTop (mkF mM 132 #[.val (.int p1), .val (.int p2), .val (.int p3), .val (.int p4), .val (.int (7 : Int32)), .val (.ref b1_), .val (.ref b218_), .unset, .unset, .unset, .unset] [(.int (7 : Int32))])) tT
      refine XS.iconst X234_.here hx rfl (Jvm.hb hby at_132) ?_
      show Steps pP.tables eE below (T234_.setTop (mkF mM 133 #[.val (.int p1), .val (.int p2), .val (.int p3), .val (.int p4), .val (.int (7 : Int32)), .val (.ref b1_), .val (.ref b218_), .unset, .unset, .unset, .unset] [(.int (3 : Int32)), (.int (7 : Int32))])) tT
      refine XS.icmpNo X234_.here hx rfl (Jvm.hb hby at_133) rfl (tlt ((by decide) : (3 : Int32) < (7 : Int32))).2.2.2 ?_
      show Steps pP.tables eE below (T234_.setTop (mkF mM 136 #[.val (.int p1), .val (.int p2), .val (.int p3), .val (.int p4), .val (.int (7 : Int32)), .val (.ref b1_), .val (.ref b218_), .unset, .unset, .unset, .unset] [])) tT
      refine XS.aload X234_.here hx rfl (Jvm.hb hby at_136) rfl rfl ?_
      show Steps pP.tables eE below (T234_.setTop (mkF mM 138 #[.val (.int p1), .val (.int p2), .val (.int p3), .val (.int p4), .val (.int (7 : Int32)), .val (.ref b1_), .val (.ref b218_), .unset, .unset, .unset, .unset] [(.ref b218_)])) tT
      refine XS.iconst X234_.here hx rfl (Jvm.hb hby at_138) ?_
      show Steps pP.tables eE below (T234_.setTop (mkF mM 139 #[.val (.int p1), .val (.int p2), .val (.int p3), .val (.int p4), .val (.int (7 : Int32)), .val (.ref b1_), .val (.ref b218_), .unset, .unset, .unset, .unset] [(.int (3 : Int32)), (.ref b218_)])) tT
      refine XS.aload X234_.here hx rfl (Jvm.hb hby at_139) rfl rfl ?_
      show Steps pP.tables eE below (T234_.setTop (mkF mM 141 #[.val (.int p1), .val (.int p2), .val (.int p3), .val (.int p4), .val (.int (7 : Int32)), .val (.ref b1_), .val (.ref b218_), .unset, .unset, .unset, .unset] [(.ref b1_), (.int (3 : Int32)), (.ref b218_)])) tT
      refine XS.iconst X234_.here hx rfl (Jvm.hb hby at_141) ?_
      show Steps pP.tables eE below (T234_.setTop (mkF mM 142 #[.val (.int p1), .val (.int p2), .val (.int p3), .val (.int p4), .val (.int (7 : Int32)), .val (.ref b1_), .val (.ref b218_), .unset, .unset, .unset, .unset] [(.int (3 : Int32)), (.ref b1_), (.int (3 : Int32)), (.ref b218_)])) tT
      exact kK
    obtain ⟨cl236_, Ar236_, qk236_, Sz236_, Nn236_, Hh236_, Gg236_⟩ := id fc235_
    have hin237_ : ¬ ((3 : Int32) < 0 ∨ cl236_.slots.size ≤ ((3 : Int32)).toNatClampNeg) := inb_of Sz236_ ⟨by decide, by decide⟩
    have hat237_ : cl236_.slots[((3 : Int32)).toNatClampNeg]? = some (.int x3) := Hh236_.at hin237_ rfl
    refine own_fin (b := T234_.setTop (mkF mM 143 #[.val (.int p1), .val (.int p2), .val (.int p3), .val (.int p4), .val (.int (7 : Int32)), .val (.ref b1_), .val (.ref b218_), .unset, .unset, .unset, .unset] [(.int x3), (.int (3 : Int32)), (.ref b218_)])) (fun tT kK => ?_) ?_
    · show Steps pP.tables eE below (T234_.setTop (mkF mM 142 #[.val (.int p1), .val (.int p2), .val (.int p3), .val (.int p4), .val (.int (7 : Int32)), .val (.ref b1_), .val (.ref b218_), .unset, .unset, .unset, .unset] [(.int (3 : Int32)), (.ref b1_), (.int (3 : Int32)), (.ref b218_)])) tT
      refine X234_.baloadBytes hx (j := (3 : Int32)) (v := (.int x3)) (own_rw e234_ Ar236_.1) (State.isArrayOf_alike hZ.alike Ar236_.2.1) Ar236_.2.2 hin237_ hat237_ (g := (mkF mM 142 #[.val (.int p1), .val (.int p2), .val (.int p3), .val (.int p4), .val (.int (7 : Int32)), .val (.ref b1_), .val (.ref b218_), .unset, .unset, .unset, .unset] [(.int (3 : Int32)), (.ref b1_), (.int (3 : Int32)), (.ref b218_)])) rfl rfl (Jvm.hb hby at_142) _ ?_
      show Steps pP.tables eE below (T234_.setTop (mkF mM 143 #[.val (.int p1), .val (.int p2), .val (.int p3), .val (.int p4), .val (.int (7 : Int32)), .val (.ref b1_), .val (.ref b218_), .unset, .unset, .unset, .unset] [(.int x3), (.int (3 : Int32)), (.ref b218_)])) tT
      exact kK
    obtain ⟨cl238_, Ar238_, qk238_, Sz238_, Nn238_, Hh238_, Gg238_⟩ := id V234_
    have hin239_ : ¬ ((3 : Int32) < 0 ∨ cl238_.slots.size ≤ ((3 : Int32)).toNatClampNeg) := inb_of Sz238_ ⟨by decide, by decide⟩
    obtain ⟨T239_, h239_, X239_, e239_, W239_, st239_⟩ := stB X234_ hx hZ e234_ Ar238_ (j := (3 : Int32)) hin239_ (g := (mkF mM 143 #[.val (.int p1), .val (.int p2), .val (.int p3), .val (.int p4), .val (.int (7 : Int32)), .val (.ref b1_), .val (.ref b218_), .unset, .unset, .unset, .unset] [(.int x3), (.int (3 : Int32)), (.ref b218_)])) rfl rfl (Jvm.hb hby at_143)
    have V239_ : Arv Z h239_ b218_ k218_ .byte (7 : Int32) [(.int (nar .byte x0)), (.int (nar .byte x1)), (.int (nar .byte x2)), (.int (nar .byte x3)), (.int (0 : Int32)), (.int (0 : Int32)), (.int (0 : Int32))] (.int (0 : Int32)) := Arv.set Ar238_ qk238_ Sz238_ Nn238_ Hh238_ Gg238_ (fits_nar_byte _) W239_ 3 rfl (Nat.le_of_ble_eq_true rfl)
    have fc240_ := fc235_.other W239_ ne219_
    have K239_ := K234_.wr W239_ (Or.inr sz_b218_)
    have N239_ := Fr.snoc X239_ N234_ ge_b218_
    refine own_fin st239_ ?_
    show own_Fin pP eE below _ (T239_.setTop (mkF mM 144 #[.val (.int p1), .val (.int p2), .val (.int p3), .val (.int p4), .val (.int (7 : Int32)), .val (.ref b1_), .val (.ref b218_), .unset, .unset, .unset, .unset] []))
    refine own_fin (b := T239_.setTop (mkF mM 156 #[.val (.int p1), .val (.int p2), .val (.int p3), .val (.int p4), .val (.int (7 : Int32)), .val (.ref b1_), .val (.ref b218_), .unset, .unset, .unset, .unset] [(.int (4 : Int32)), (.ref b1_), (.int (4 : Int32)), (.ref b218_)])) (fun tT kK => ?_) ?_
    · show Steps pP.tables eE below (T239_.setTop (mkF mM 144 #[.val (.int p1), .val (.int p2), .val (.int p3), .val (.int p4), .val (.int (7 : Int32)), .val (.ref b1_), .val (.ref b218_), .unset, .unset, .unset, .unset] [])) tT
      refine XS.iload X239_.here hx rfl (Jvm.hb hby at_144) rfl ?_
      show Steps pP.tables eE below (T239_.setTop (mkF mM 146 #[.val (.int p1), .val (.int p2), .val (.int p3), .val (.int p4), .val (.int (7 : Int32)), .val (.ref b1_), .val (.ref b218_), .unset, .unset, .unset, .unset] [(.int (7 : Int32))])) tT
      refine XS.iconst X239_.here hx rfl (Jvm.hb hby at_146) ?_
      show Steps pP.tables eE below (T239_.setTop (mkF mM 147 #[.val (.int p1), .val (.int p2), .val (.int p3), .val (.int p4), .val (.int (7 : Int32)), .val (.ref b1_), .val (.ref b218_), .unset, .unset, .unset, .unset] [(.int (4 : Int32)), (.int (7 : Int32))])) tT
      refine XS.icmpNo X239_.here hx rfl (Jvm.hb hby at_147) rfl (tlt ((by decide) : (4 : Int32) < (7 : Int32))).2.2.2 ?_
      show Steps pP.tables eE below (T239_.setTop (mkF mM 150 #[.val (.int p1), .val (.int p2), .val (.int p3), .val (.int p4), .val (.int (7 : Int32)), .val (.ref b1_), .val (.ref b218_), .unset, .unset, .unset, .unset] [])) tT
      refine XS.aload X239_.here hx rfl (Jvm.hb hby at_150) rfl rfl ?_
      show Steps pP.tables eE below (T239_.setTop (mkF mM 152 #[.val (.int p1), .val (.int p2), .val (.int p3), .val (.int p4), .val (.int (7 : Int32)), .val (.ref b1_), .val (.ref b218_), .unset, .unset, .unset, .unset] [(.ref b218_)])) tT
      refine XS.iconst X239_.here hx rfl (Jvm.hb hby at_152) ?_
      show Steps pP.tables eE below (T239_.setTop (mkF mM 153 #[.val (.int p1), .val (.int p2), .val (.int p3), .val (.int p4), .val (.int (7 : Int32)), .val (.ref b1_), .val (.ref b218_), .unset, .unset, .unset, .unset] [(.int (4 : Int32)), (.ref b218_)])) tT
      refine XS.aload X239_.here hx rfl (Jvm.hb hby at_153) rfl rfl ?_
      show Steps pP.tables eE below (T239_.setTop (mkF mM 155 #[.val (.int p1), .val (.int p2), .val (.int p3), .val (.int p4), .val (.int (7 : Int32)), .val (.ref b1_), .val (.ref b218_), .unset, .unset, .unset, .unset] [(.ref b1_), (.int (4 : Int32)), (.ref b218_)])) tT
      refine XS.iconst X239_.here hx rfl (Jvm.hb hby at_155) ?_
      show Steps pP.tables eE below (T239_.setTop (mkF mM 156 #[.val (.int p1), .val (.int p2), .val (.int p3), .val (.int p4), .val (.int (7 : Int32)), .val (.ref b1_), .val (.ref b218_), .unset, .unset, .unset, .unset] [(.int (4 : Int32)), (.ref b1_), (.int (4 : Int32)), (.ref b218_)])) tT
      exact kK
    obtain ⟨cl241_, Ar241_, qk241_, Sz241_, Nn241_, Hh241_, Gg241_⟩ := id fc240_
    have hin242_ : ¬ ((4 : Int32) < 0 ∨ cl241_.slots.size ≤ ((4 : Int32)).toNatClampNeg) := inb_of Sz241_ ⟨by decide, by decide⟩
    have hat242_ : cl241_.slots[((4 : Int32)).toNatClampNeg]? = some (.int x4) := Hh241_.at hin242_ rfl
    refine own_fin (b := T239_.setTop (mkF mM 157 #[.val (.int p1), .val (.int p2), .val (.int p3), .val (.int p4), .val (.int (7 : Int32)), .val (.ref b1_), .val (.ref b218_), .unset, .unset, .unset, .unset] [(.int x4), (.int (4 : Int32)), (.ref b218_)])) (fun tT kK => ?_) ?_
    · show Steps pP.tables eE below (T239_.setTop (mkF mM 156 #[.val (.int p1), .val (.int p2), .val (.int p3), .val (.int p4), .val (.int (7 : Int32)), .val (.ref b1_), .val (.ref b218_), .unset, .unset, .unset, .unset] [(.int (4 : Int32)), (.ref b1_), (.int (4 : Int32)), (.ref b218_)])) tT
      refine X239_.baloadBytes hx (j := (4 : Int32)) (v := (.int x4)) (own_rw e239_ Ar241_.1) (State.isArrayOf_alike hZ.alike Ar241_.2.1) Ar241_.2.2 hin242_ hat242_ (g := (mkF mM 156 #[.val (.int p1), .val (.int p2), .val (.int p3), .val (.int p4), .val (.int (7 : Int32)), .val (.ref b1_), .val (.ref b218_), .unset, .unset, .unset, .unset] [(.int (4 : Int32)), (.ref b1_), (.int (4 : Int32)), (.ref b218_)])) rfl rfl (Jvm.hb hby at_156) _ ?_
      show Steps pP.tables eE below (T239_.setTop (mkF mM 157 #[.val (.int p1), .val (.int p2), .val (.int p3), .val (.int p4), .val (.int (7 : Int32)), .val (.ref b1_), .val (.ref b218_), .unset, .unset, .unset, .unset] [(.int x4), (.int (4 : Int32)), (.ref b218_)])) tT
      exact kK
    obtain ⟨cl243_, Ar243_, qk243_, Sz243_, Nn243_, Hh243_, Gg243_⟩ := id V239_
    have hin244_ : ¬ ((4 : Int32) < 0 ∨ cl243_.slots.size ≤ ((4 : Int32)).toNatClampNeg) := inb_of Sz243_ ⟨by decide, by decide⟩
    obtain ⟨T244_, h244_, X244_, e244_, W244_, st244_⟩ := stB X239_ hx hZ e239_ Ar243_ (j := (4 : Int32)) hin244_ (g := (mkF mM 157 #[.val (.int p1), .val (.int p2), .val (.int p3), .val (.int p4), .val (.int (7 : Int32)), .val (.ref b1_), .val (.ref b218_), .unset, .unset, .unset, .unset] [(.int x4), (.int (4 : Int32)), (.ref b218_)])) rfl rfl (Jvm.hb hby at_157)
    have V244_ : Arv Z h244_ b218_ k218_ .byte (7 : Int32) [(.int (nar .byte x0)), (.int (nar .byte x1)), (.int (nar .byte x2)), (.int (nar .byte x3)), (.int (nar .byte x4)), (.int (0 : Int32)), (.int (0 : Int32))] (.int (0 : Int32)) := Arv.set Ar243_ qk243_ Sz243_ Nn243_ Hh243_ Gg243_ (fits_nar_byte _) W244_ 4 rfl (Nat.le_of_ble_eq_true rfl)
    have fc245_ := fc240_.other W244_ ne219_
    have K244_ := K239_.wr W244_ (Or.inr sz_b218_)
    have N244_ := Fr.snoc X244_ N239_ ge_b218_
    refine own_fin st244_ ?_
    show own_Fin pP eE below _ (T244_.setTop (mkF mM 158 #[.val (.int p1), .val (.int p2), .val (.int p3), .val (.int p4), .val (.int (7 : Int32)), .val (.ref b1_), .val (.ref b218_), .unset, .unset, .unset, .unset] []))
    refine own_fin (b := T244_.setTop (mkF mM 170 #[.val (.int p1), .val (.int p2), .val (.int p3), .val (.int p4), .val (.int (7 : Int32)), .val (.ref b1_), .val (.ref b218_), .unset, .unset, .unset, .unset] [(.int (5 : Int32)), (.ref b1_), (.int (5 : Int32)), (.ref b218_)])) (fun tT kK => ?_) ?_
    · show Steps pP.tables eE below (T244_.setTop (mkF mM 158 #[.val (.int p1), .val (.int p2), .val (.int p3), .val (.int p4), .val (.int (7 : Int32)), .val (.ref b1_), .val (.ref b218_), .unset, .unset, .unset, .unset] [])) tT
      refine XS.iload X244_.here hx rfl (Jvm.hb hby at_158) rfl ?_
      show Steps pP.tables eE below (T244_.setTop (mkF mM 160 #[.val (.int p1), .val (.int p2), .val (.int p3), .val (.int p4), .val (.int (7 : Int32)), .val (.ref b1_), .val (.ref b218_), .unset, .unset, .unset, .unset] [(.int (7 : Int32))])) tT
      refine XS.iconst X244_.here hx rfl (Jvm.hb hby at_160) ?_
      show Steps pP.tables eE below (T244_.setTop (mkF mM 161 #[.val (.int p1), .val (.int p2), .val (.int p3), .val (.int p4), .val (.int (7 : Int32)), .val (.ref b1_), .val (.ref b218_), .unset, .unset, .unset, .unset] [(.int (5 : Int32)), (.int (7 : Int32))])) tT
      refine XS.icmpNo X244_.here hx rfl (Jvm.hb hby at_161) rfl (tlt ((by decide) : (5 : Int32) < (7 : Int32))).2.2.2 ?_
      show Steps pP.tables eE below (T244_.setTop (mkF mM 164 #[.val (.int p1), .val (.int p2), .val (.int p3), .val (.int p4), .val (.int (7 : Int32)), .val (.ref b1_), .val (.ref b218_), .unset, .unset, .unset, .unset] [])) tT
      refine XS.aload X244_.here hx rfl (Jvm.hb hby at_164) rfl rfl ?_
      show Steps pP.tables eE below (T244_.setTop (mkF mM 166 #[.val (.int p1), .val (.int p2), .val (.int p3), .val (.int p4), .val (.int (7 : Int32)), .val (.ref b1_), .val (.ref b218_), .unset, .unset, .unset, .unset] [(.ref b218_)])) tT
      refine XS.iconst X244_.here hx rfl (Jvm.hb hby at_166) ?_
      show Steps pP.tables eE below (T244_.setTop (mkF mM 167 #[.val (.int p1), .val (.int p2), .val (.int p3), .val (.int p4), .val (.int (7 : Int32)), .val (.ref b1_), .val (.ref b218_), .unset, .unset, .unset, .unset] [(.int (5 : Int32)), (.ref b218_)])) tT
      refine XS.aload X244_.here hx rfl (Jvm.hb hby at_167) rfl rfl ?_
      show Steps pP.tables eE below (T244_.setTop (mkF mM 169 #[.val (.int p1), .val (.int p2), .val (.int p3), .val (.int p4), .val (.int (7 : Int32)), .val (.ref b1_), .val (.ref b218_), .unset, .unset, .unset, .unset] [(.ref b1_), (.int (5 : Int32)), (.ref b218_)])) tT
      refine XS.iconst X244_.here hx rfl (Jvm.hb hby at_169) ?_
      show Steps pP.tables eE below (T244_.setTop (mkF mM 170 #[.val (.int p1), .val (.int p2), .val (.int p3), .val (.int p4), .val (.int (7 : Int32)), .val (.ref b1_), .val (.ref b218_), .unset, .unset, .unset, .unset] [(.int (5 : Int32)), (.ref b1_), (.int (5 : Int32)), (.ref b218_)])) tT
      exact kK
    obtain ⟨cl246_, Ar246_, qk246_, Sz246_, Nn246_, Hh246_, Gg246_⟩ := id fc245_
    have hin247_ : ¬ ((5 : Int32) < 0 ∨ cl246_.slots.size ≤ ((5 : Int32)).toNatClampNeg) := inb_of Sz246_ ⟨by decide, by decide⟩
    have hat247_ : cl246_.slots[((5 : Int32)).toNatClampNeg]? = some (.int x5) := Hh246_.at hin247_ rfl
    refine own_fin (b := T244_.setTop (mkF mM 171 #[.val (.int p1), .val (.int p2), .val (.int p3), .val (.int p4), .val (.int (7 : Int32)), .val (.ref b1_), .val (.ref b218_), .unset, .unset, .unset, .unset] [(.int x5), (.int (5 : Int32)), (.ref b218_)])) (fun tT kK => ?_) ?_
    · show Steps pP.tables eE below (T244_.setTop (mkF mM 170 #[.val (.int p1), .val (.int p2), .val (.int p3), .val (.int p4), .val (.int (7 : Int32)), .val (.ref b1_), .val (.ref b218_), .unset, .unset, .unset, .unset] [(.int (5 : Int32)), (.ref b1_), (.int (5 : Int32)), (.ref b218_)])) tT
      refine X244_.baloadBytes hx (j := (5 : Int32)) (v := (.int x5)) (own_rw e244_ Ar246_.1) (State.isArrayOf_alike hZ.alike Ar246_.2.1) Ar246_.2.2 hin247_ hat247_ (g := (mkF mM 170 #[.val (.int p1), .val (.int p2), .val (.int p3), .val (.int p4), .val (.int (7 : Int32)), .val (.ref b1_), .val (.ref b218_), .unset, .unset, .unset, .unset] [(.int (5 : Int32)), (.ref b1_), (.int (5 : Int32)), (.ref b218_)])) rfl rfl (Jvm.hb hby at_170) _ ?_
      show Steps pP.tables eE below (T244_.setTop (mkF mM 171 #[.val (.int p1), .val (.int p2), .val (.int p3), .val (.int p4), .val (.int (7 : Int32)), .val (.ref b1_), .val (.ref b218_), .unset, .unset, .unset, .unset] [(.int x5), (.int (5 : Int32)), (.ref b218_)])) tT
      exact kK
    obtain ⟨cl248_, Ar248_, qk248_, Sz248_, Nn248_, Hh248_, Gg248_⟩ := id V244_
    have hin249_ : ¬ ((5 : Int32) < 0 ∨ cl248_.slots.size ≤ ((5 : Int32)).toNatClampNeg) := inb_of Sz248_ ⟨by decide, by decide⟩
    obtain ⟨T249_, h249_, X249_, e249_, W249_, st249_⟩ := stB X244_ hx hZ e244_ Ar248_ (j := (5 : Int32)) hin249_ (g := (mkF mM 171 #[.val (.int p1), .val (.int p2), .val (.int p3), .val (.int p4), .val (.int (7 : Int32)), .val (.ref b1_), .val (.ref b218_), .unset, .unset, .unset, .unset] [(.int x5), (.int (5 : Int32)), (.ref b218_)])) rfl rfl (Jvm.hb hby at_171)
    have V249_ : Arv Z h249_ b218_ k218_ .byte (7 : Int32) [(.int (nar .byte x0)), (.int (nar .byte x1)), (.int (nar .byte x2)), (.int (nar .byte x3)), (.int (nar .byte x4)), (.int (nar .byte x5)), (.int (0 : Int32))] (.int (0 : Int32)) := Arv.set Ar248_ qk248_ Sz248_ Nn248_ Hh248_ Gg248_ (fits_nar_byte _) W249_ 5 rfl (Nat.le_of_ble_eq_true rfl)
    have fc250_ := fc245_.other W249_ ne219_
    have K249_ := K244_.wr W249_ (Or.inr sz_b218_)
    have N249_ := Fr.snoc X249_ N244_ ge_b218_
    refine own_fin st249_ ?_
    show own_Fin pP eE below _ (T249_.setTop (mkF mM 172 #[.val (.int p1), .val (.int p2), .val (.int p3), .val (.int p4), .val (.int (7 : Int32)), .val (.ref b1_), .val (.ref b218_), .unset, .unset, .unset, .unset] []))
    refine own_fin (b := T249_.setTop (mkF mM 187 #[.val (.int p1), .val (.int p2), .val (.int p3), .val (.int p4), .val (.int (7 : Int32)), .val (.ref b1_), .val (.ref b218_), .unset, .unset, .unset, .unset] [(.int (6 : Int32)), (.ref b1_), (.int (6 : Int32)), (.ref b218_)])) (fun tT kK => ?_) ?_
    · show Steps pP.tables eE below (T249_.setTop (mkF mM 172 #[.val (.int p1), .val (.int p2), .val (.int p3), .val (.int p4), .val (.int (7 : Int32)), .val (.ref b1_), .val (.ref b218_), .unset, .unset, .unset, .unset] [])) tT
      refine XS.iload X249_.here hx rfl (Jvm.hb hby at_172) rfl ?_
      show Steps pP.tables eE below (T249_.setTop (mkF mM 174 #[.val (.int p1), .val (.int p2), .val (.int p3), .val (.int p4), .val (.int (7 : Int32)), .val (.ref b1_), .val (.ref b218_), .unset, .unset, .unset, .unset] [(.int (7 : Int32))])) tT
      refine XS.bipush X249_.here hx rfl (Jvm.hb hby at_174) ?_
      show Steps pP.tables eE below (T249_.setTop (mkF mM 176 #[.val (.int p1), .val (.int p2), .val (.int p3), .val (.int p4), .val (.int (7 : Int32)), .val (.ref b1_), .val (.ref b218_), .unset, .unset, .unset, .unset] [(.int (6 : Int32)), (.int (7 : Int32))])) tT
      refine XS.icmpNo X249_.here hx rfl (Jvm.hb hby at_176) rfl (tlt ((by decide) : (6 : Int32) < (7 : Int32))).2.2.2 ?_
      show Steps pP.tables eE below (T249_.setTop (mkF mM 179 #[.val (.int p1), .val (.int p2), .val (.int p3), .val (.int p4), .val (.int (7 : Int32)), .val (.ref b1_), .val (.ref b218_), .unset, .unset, .unset, .unset] [])) tT
      refine XS.aload X249_.here hx rfl (Jvm.hb hby at_179) rfl rfl ?_
      show Steps pP.tables eE below (T249_.setTop (mkF mM 181 #[.val (.int p1), .val (.int p2), .val (.int p3), .val (.int p4), .val (.int (7 : Int32)), .val (.ref b1_), .val (.ref b218_), .unset, .unset, .unset, .unset] [(.ref b218_)])) tT
      refine XS.bipush X249_.here hx rfl (Jvm.hb hby at_181) ?_
      show Steps pP.tables eE below (T249_.setTop (mkF mM 183 #[.val (.int p1), .val (.int p2), .val (.int p3), .val (.int p4), .val (.int (7 : Int32)), .val (.ref b1_), .val (.ref b218_), .unset, .unset, .unset, .unset] [(.int (6 : Int32)), (.ref b218_)])) tT
      refine XS.aload X249_.here hx rfl (Jvm.hb hby at_183) rfl rfl ?_
      show Steps pP.tables eE below (T249_.setTop (mkF mM 185 #[.val (.int p1), .val (.int p2), .val (.int p3), .val (.int p4), .val (.int (7 : Int32)), .val (.ref b1_), .val (.ref b218_), .unset, .unset, .unset, .unset] [(.ref b1_), (.int (6 : Int32)), (.ref b218_)])) tT
      refine XS.bipush X249_.here hx rfl (Jvm.hb hby at_185) ?_
      show Steps pP.tables eE below (T249_.setTop (mkF mM 187 #[.val (.int p1), .val (.int p2), .val (.int p3), .val (.int p4), .val (.int (7 : Int32)), .val (.ref b1_), .val (.ref b218_), .unset, .unset, .unset, .unset] [(.int (6 : Int32)), (.ref b1_), (.int (6 : Int32)), (.ref b218_)])) tT
      exact kK
    obtain ⟨cl251_, Ar251_, qk251_, Sz251_, Nn251_, Hh251_, Gg251_⟩ := id fc250_
    have hin252_ : ¬ ((6 : Int32) < 0 ∨ cl251_.slots.size ≤ ((6 : Int32)).toNatClampNeg) := inb_of Sz251_ ⟨by decide, by decide⟩
    have hat252_ : cl251_.slots[((6 : Int32)).toNatClampNeg]? = some (.int x6) := Hh251_.at hin252_ rfl
    refine own_fin (b := T249_.setTop (mkF mM 188 #[.val (.int p1), .val (.int p2), .val (.int p3), .val (.int p4), .val (.int (7 : Int32)), .val (.ref b1_), .val (.ref b218_), .unset, .unset, .unset, .unset] [(.int x6), (.int (6 : Int32)), (.ref b218_)])) (fun tT kK => ?_) ?_
    · show Steps pP.tables eE below (T249_.setTop (mkF mM 187 #[.val (.int p1), .val (.int p2), .val (.int p3), .val (.int p4), .val (.int (7 : Int32)), .val (.ref b1_), .val (.ref b218_), .unset, .unset, .unset, .unset] [(.int (6 : Int32)), (.ref b1_), (.int (6 : Int32)), (.ref b218_)])) tT
      refine X249_.baloadBytes hx (j := (6 : Int32)) (v := (.int x6)) (own_rw e249_ Ar251_.1) (State.isArrayOf_alike hZ.alike Ar251_.2.1) Ar251_.2.2 hin252_ hat252_ (g := (mkF mM 187 #[.val (.int p1), .val (.int p2), .val (.int p3), .val (.int p4), .val (.int (7 : Int32)), .val (.ref b1_), .val (.ref b218_), .unset, .unset, .unset, .unset] [(.int (6 : Int32)), (.ref b1_), (.int (6 : Int32)), (.ref b218_)])) rfl rfl (Jvm.hb hby at_187) _ ?_
      show Steps pP.tables eE below (T249_.setTop (mkF mM 188 #[.val (.int p1), .val (.int p2), .val (.int p3), .val (.int p4), .val (.int (7 : Int32)), .val (.ref b1_), .val (.ref b218_), .unset, .unset, .unset, .unset] [(.int x6), (.int (6 : Int32)), (.ref b218_)])) tT
      exact kK
    obtain ⟨cl253_, Ar253_, qk253_, Sz253_, Nn253_, Hh253_, Gg253_⟩ := id V249_
    have hin254_ : ¬ ((6 : Int32) < 0 ∨ cl253_.slots.size ≤ ((6 : Int32)).toNatClampNeg) := inb_of Sz253_ ⟨by decide, by decide⟩
    obtain ⟨T254_, h254_, X254_, e254_, W254_, st254_⟩ := stB X249_ hx hZ e249_ Ar253_ (j := (6 : Int32)) hin254_ (g := (mkF mM 188 #[.val (.int p1), .val (.int p2), .val (.int p3), .val (.int p4), .val (.int (7 : Int32)), .val (.ref b1_), .val (.ref b218_), .unset, .unset, .unset, .unset] [(.int x6), (.int (6 : Int32)), (.ref b218_)])) rfl rfl (Jvm.hb hby at_188)
    have V254_ : Arv Z h254_ b218_ k218_ .byte (7 : Int32) [(.int (nar .byte x0)), (.int (nar .byte x1)), (.int (nar .byte x2)), (.int (nar .byte x3)), (.int (nar .byte x4)), (.int (nar .byte x5)), (.int (nar .byte x6))] (.int (0 : Int32)) := Arv.set Ar253_ qk253_ Sz253_ Nn253_ Hh253_ Gg253_ (fits_nar_byte _) W254_ 6 rfl (Nat.le_of_ble_eq_true rfl)
    have fc255_ := fc250_.other W254_ ne219_
    have K254_ := K249_.wr W254_ (Or.inr sz_b218_)
    have N254_ := Fr.snoc X254_ N249_ ge_b218_
    refine own_fin st254_ ?_
    show own_Fin pP eE below _ (T254_.setTop (mkF mM 189 #[.val (.int p1), .val (.int p2), .val (.int p3), .val (.int p4), .val (.int (7 : Int32)), .val (.ref b1_), .val (.ref b218_), .unset, .unset, .unset, .unset] []))
    refine own_fin (b := T254_.setTop (mkF mM 213 #[.val (.int p1), .val (.int p2), .val (.int p3), .val (.int p4), .val (.int (7 : Int32)), .val (.ref b1_), .val (.ref b218_), .val (.int (p4 &&& (255 : Int32))), .unset, .unset, .unset] [])) (fun tT kK => ?_) ?_
    · show Steps pP.tables eE below (T254_.setTop (mkF mM 189 #[.val (.int p1), .val (.int p2), .val (.int p3), .val (.int p4), .val (.int (7 : Int32)), .val (.ref b1_), .val (.ref b218_), .unset, .unset, .unset, .unset] [])) tT
      refine XS.iload X254_.here hx rfl (Jvm.hb hby at_189) rfl ?_
      show Steps pP.tables eE below (T254_.setTop (mkF mM 191 #[.val (.int p1), .val (.int p2), .val (.int p3), .val (.int p4), .val (.int (7 : Int32)), .val (.ref b1_), .val (.ref b218_), .unset, .unset, .unset, .unset] [(.int (7 : Int32))])) tT
      refine XS.bipush X254_.here hx rfl (Jvm.hb hby at_191) ?_
      show Steps pP.tables eE below (T254_.setTop (mkF mM 193 #[.val (.int p1), .val (.int p2), .val (.int p3), .val (.int p4), .val (.int (7 : Int32)), .val (.ref b1_), .val (.ref b218_), .unset, .unset, .unset, .unset] [(.int (7 : Int32)), (.int (7 : Int32))])) tT
      refine XS.icmpYes X254_.here hx rfl (pc0 := 193) (pc' := 206) rfl (Jvm.hb hby at_193) rfl (flt ((by decide) : ¬ ((7 : Int32) < (7 : Int32)))).2.2.2 (by decide) (by decide) ?_
      show Steps pP.tables eE below (T254_.setTop (mkF mM 206 #[.val (.int p1), .val (.int p2), .val (.int p3), .val (.int p4), .val (.int (7 : Int32)), .val (.ref b1_), .val (.ref b218_), .unset, .unset, .unset, .unset] [])) tT
      refine XS.iloadN X254_.here hx rfl (Jvm.hb hby at_206) rfl ?_
      show Steps pP.tables eE below (T254_.setTop (mkF mM 207 #[.val (.int p1), .val (.int p2), .val (.int p3), .val (.int p4), .val (.int (7 : Int32)), .val (.ref b1_), .val (.ref b218_), .unset, .unset, .unset, .unset] [(.int p4)])) tT
      refine XS.sipush X254_.here hx rfl (Jvm.hb hby at_207) ?_
      show Steps pP.tables eE below (T254_.setTop (mkF mM 210 #[.val (.int p1), .val (.int p2), .val (.int p3), .val (.int p4), .val (.int (7 : Int32)), .val (.ref b1_), .val (.ref b218_), .unset, .unset, .unset, .unset] [(.int (255 : Int32)), (.int p4)])) tT
      refine XS.iand X254_.here hx rfl (Jvm.hb hby at_210) rfl ?_
      show Steps pP.tables eE below (T254_.setTop (mkF mM 211 #[.val (.int p1), .val (.int p2), .val (.int p3), .val (.int p4), .val (.int (7 : Int32)), .val (.ref b1_), .val (.ref b218_), .unset, .unset, .unset, .unset] [(.int (p4 &&& (255 : Int32)))])) tT
      refine XS.istore X254_.here hx rfl (Jvm.hb hby at_211) rfl (l' := #[.val (.int p1), .val (.int p2), .val (.int p3), .val (.int p4), .val (.int (7 : Int32)), .val (.ref b1_), .val (.ref b218_), .val (.int (p4 &&& (255 : Int32))), .unset, .unset, .unset]) rfl ?_
      show Steps pP.tables eE below (T254_.setTop (mkF mM 213 #[.val (.int p1), .val (.int p2), .val (.int p3), .val (.int p4), .val (.int (7 : Int32)), .val (.ref b1_), .val (.ref b218_), .val (.int (p4 &&& (255 : Int32))), .unset, .unset, .unset] [])) tT
      exact kK
    show own_Fin pP eE below _ (T254_.setTop (mkF mM 213 #[.val (.int p1), .val (.int p2), .val (.int p3), .val (.int p4), .val (.int (7 : Int32)), .val (.ref b1_), .val (.ref b218_), .val (.int (p4 &&& (255 : Int32))), .unset, .unset, .unset] []))
    generalize hvq : (p4 &&& (255 : Int32)) = vq
    show own_Fin pP eE below _ (T254_.setTop (mkF mM 213 #[.val (.int p1), .val (.int p2), .val (.int p3), .val (.int p4), .val (.int (7 : Int32)), .val (.ref b1_), .val (.ref b218_), .val (.int vq), .unset, .unset, .unset] []))
    have hq := own_m255 p4
    rw [hvq] at hq
    have Vp : Arv Z h254_ b218_ k218_ .byte (7 : Int32) (([x0, x1, x2, x3, x4, x5, x6] : List Int32).map Value.int) (.int (0 : Int32)) := by have q := V254_; rw [hy0, hy1, hy2, hy3, hy4, hy5, hy6] at q; exact q
    refine own_fin (b := T254_.setTop (mkF mM 215 #[.val (.int p1), .val (.int p2), .val (.int p3), .val (.int p4), .val (.int (7 : Int32)), .val (.ref b1_), .val (.ref b218_), .val (.int vq), .unset, .unset, .unset] [(.ref b218_)])) (fun tT kK => ?_) ?_
    · show Steps pP.tables eE below (T254_.setTop (mkF mM 213 #[.val (.int p1), .val (.int p2), .val (.int p3), .val (.int p4), .val (.int (7 : Int32)), .val (.ref b1_), .val (.ref b218_), .val (.int vq), .unset, .unset, .unset] [])) tT
      refine XS.aload X254_.here hx rfl (Jvm.hb hby at_213) rfl rfl ?_
      show Steps pP.tables eE below (T254_.setTop (mkF mM 215 #[.val (.int p1), .val (.int p2), .val (.int p3), .val (.int p4), .val (.int (7 : Int32)), .val (.ref b1_), .val (.ref b218_), .val (.int vq), .unset, .unset, .unset] [(.ref b218_)])) tT
      exact kK
    obtain ⟨_, _, ⟨T256_, L256_, k256_, n256_⟩, -, X256_, ⟨Lc256_, hQ256_, l256_, y256_, z256_⟩, st256_⟩ := Jvm.LawKit.callS X254_ hx (y := (⟨"com/example/needlework/needlework/BoyerMoore", "rightmost", "([B)[I"⟩ : MethodName)) hown (mvT hZ (hw _ (List.mem_of_getElem? (i := 1) rfl))) (mvT hZ (hw _ (List.mem_of_getElem? (i := 2) rfl))) (mvT hZ (hw _ (List.mem_of_getElem? (i := 3) rfl))) (mvT hZ (hw _ (List.mem_of_getElem? (i := 4) rfl))) (by decide) (backOf (W := 0) (rm_right lL Z a0 hw [] b218_ k218_ (7 : Int32) ([x0, x1, x2, x3, x4, x5, x6] : List Int32) h254_ n0 (Nat.le_trans Z0 K254_.1) Vp) hZ (hw _ (List.mem_of_getElem? (i := 4) rfl)) (hw _ (List.mem_of_getElem? (i := 3) rfl)) (by decide) (by decide)) (g := (mkF mM 215 #[.val (.int p1), .val (.int p2), .val (.int p3), .val (.int p4), .val (.int (7 : Int32)), .val (.ref b1_), .val (.ref b218_), .val (.int vq), .unset, .unset, .unset] [(.ref b218_)])) rfl (by rw [hml]; rfl) (argsL := [(.ref b218_)]) (rest := []) (lenOf own_pd1 rfl) rfl (by show 2 * 0 + _ ≤ _; exact Nat.le_of_eq rfl) (Jvm.hb hby at_215) (fun _ _ => ⟨rfl, e254_, (by decide : 2 + 1 ≤ _), (by decide : 15 + 256 ≤ _)⟩)
    dsimp only [Pt.U, Pt.locs, Pt.cells, Pt.slots] at X256_ l256_ y256_ z256_ st256_ hQ256_
    subst l256_ y256_ z256_
    obtain ⟨b_256_, rfl, N256_q, p256__0, p256__1, p256__2⟩ := hQ256_
    have N256_ := Fr.app N254_ N256_q
    have sz_b_256_ : h0.size ≤ b_256_ := Nat.le_trans K254_.1 p256__1
    have ge_b_256_ : n0 ≤ b_256_ := Nat.le_trans Z0 sz_b_256_
    have ne257_ : b1_ ≠ b_256_ := Nat.ne_of_lt (Nat.lt_of_lt_of_le fc255_.lt p256__1)
    have ne258_ : b218_ ≠ b_256_ := Nat.ne_of_lt (Nat.lt_of_lt_of_le V254_.lt p256__1)
    have fc259_ := fc255_.keep p256__0 nin0
    have fc260_ := V254_.keep p256__0 nin0
    have K256_ := K254_.trans p256__0 all0
    refine own_fin (fun tT kK => st256_ tT kK) ?_
    show own_Fin pP eE below _ (T256_.setTop (mkF mM 218 #[.val (.int p1), .val (.int p2), .val (.int p3), .val (.int p4), .val (.int (7 : Int32)), .val (.ref b1_), .val (.ref b218_), .val (.int vq), .unset, .unset, .unset] [(.ref b_256_)]))
    refine own_fin (b := T256_.setTop (mkF mM 227 #[.val (.int p1), .val (.int p2), .val (.int p3), .val (.int p4), .val (.int (7 : Int32)), .val (.ref b1_), .val (.ref b218_), .val (.int vq), .val (.ref b_256_), .unset, .unset] [(.ref b_256_)])) (fun tT kK => ?_) ?_
    · show Steps pP.tables eE below (T256_.setTop (mkF mM 218 #[.val (.int p1), .val (.int p2), .val (.int p3), .val (.int p4), .val (.int (7 : Int32)), .val (.ref b1_), .val (.ref b218_), .val (.int vq), .unset, .unset, .unset] [(.ref b_256_)])) tT
      refine XS.astore X256_.here hx rfl (Jvm.hb hby at_218) rfl rfl (l' := #[.val (.int p1), .val (.int p2), .val (.int p3), .val (.int p4), .val (.int (7 : Int32)), .val (.ref b1_), .val (.ref b218_), .val (.int vq), .val (.ref b_256_), .unset, .unset]) rfl ?_
      show Steps pP.tables eE below (T256_.setTop (mkF mM 220 #[.val (.int p1), .val (.int p2), .val (.int p3), .val (.int p4), .val (.int (7 : Int32)), .val (.ref b1_), .val (.ref b218_), .val (.int vq), .val (.ref b_256_), .unset, .unset] [])) tT
      refine XS.aload X256_.here hx rfl (Jvm.hb hby at_220) rfl rfl ?_
      show Steps pP.tables eE below (T256_.setTop (mkF mM 222 #[.val (.int p1), .val (.int p2), .val (.int p3), .val (.int p4), .val (.int (7 : Int32)), .val (.ref b1_), .val (.ref b218_), .val (.int vq), .val (.ref b_256_), .unset, .unset] [(.ref b_256_)])) tT
      refine XS.ifnullNo X256_.here hx rfl (Jvm.hb hby at_222) rfl ?_
      show Steps pP.tables eE below (T256_.setTop (mkF mM 225 #[.val (.int p1), .val (.int p2), .val (.int p3), .val (.int p4), .val (.int (7 : Int32)), .val (.ref b1_), .val (.ref b218_), .val (.int vq), .val (.ref b_256_), .unset, .unset] [])) tT
      refine XS.aload X256_.here hx rfl (Jvm.hb hby at_225) rfl rfl ?_
      show Steps pP.tables eE below (T256_.setTop (mkF mM 227 #[.val (.int p1), .val (.int p2), .val (.int p3), .val (.int p4), .val (.int (7 : Int32)), .val (.ref b1_), .val (.ref b218_), .val (.int vq), .val (.ref b_256_), .unset, .unset] [(.ref b_256_)])) tT
      exact kK
    obtain ⟨cl261_, Ar261_, Sz261_, Nn261_, -⟩ := id p256__2
    refine own_fin (b := T256_.setTop (mkF mM 240 #[.val (.int p1), .val (.int p2), .val (.int p3), .val (.int p4), .val (.int (7 : Int32)), .val (.ref b1_), .val (.ref b218_), .val (.int vq), .val (.ref b_256_), .unset, .unset] [(.int vq), (.ref b_256_)])) (fun tT kK => ?_) ?_
    · show Steps pP.tables eE below (T256_.setTop (mkF mM 227 #[.val (.int p1), .val (.int p2), .val (.int p3), .val (.int p4), .val (.int (7 : Int32)), .val (.ref b1_), .val (.ref b218_), .val (.int vq), .val (.ref b_256_), .unset, .unset] [(.ref b_256_)])) tT
      refine X256_.arraylength hx (own_rw rfl Ar261_.1) (State.isArrayOf_alike hZ.alike Ar261_.2.1) (g := (mkF mM 227 #[.val (.int p1), .val (.int p2), .val (.int p3), .val (.int p4), .val (.int (7 : Int32)), .val (.ref b1_), .val (.ref b218_), .val (.int vq), .val (.ref b_256_), .unset, .unset] [(.ref b_256_)])) rfl rfl (Jvm.hb hby at_227) _ ?_
      rw [len_of Sz261_ Nn261_]
      show Steps pP.tables eE below (T256_.setTop (mkF mM 228 #[.val (.int p1), .val (.int p2), .val (.int p3), .val (.int p4), .val (.int (7 : Int32)), .val (.ref b1_), .val (.ref b218_), .val (.int vq), .val (.ref b_256_), .unset, .unset] [(.int (256 : Int32))])) tT
      refine XS.sipush X256_.here hx rfl (Jvm.hb hby at_228) ?_
      show Steps pP.tables eE below (T256_.setTop (mkF mM 231 #[.val (.int p1), .val (.int p2), .val (.int p3), .val (.int p4), .val (.int (7 : Int32)), .val (.ref b1_), .val (.ref b218_), .val (.int vq), .val (.ref b_256_), .unset, .unset] [(.int (256 : Int32)), (.int (256 : Int32))])) tT
      refine XS.icmpYes X256_.here hx rfl (pc0 := 231) (pc' := 236) rfl (Jvm.hb hby at_231) rfl (teq ((by decide) : (256 : Int32) = (256 : Int32))).1 (by decide) (by decide) ?_
      show Steps pP.tables eE below (T256_.setTop (mkF mM 236 #[.val (.int p1), .val (.int p2), .val (.int p3), .val (.int p4), .val (.int (7 : Int32)), .val (.ref b1_), .val (.ref b218_), .val (.int vq), .val (.ref b_256_), .unset, .unset] [])) tT
      refine XS.aload X256_.here hx rfl (Jvm.hb hby at_236) rfl rfl ?_
      show Steps pP.tables eE below (T256_.setTop (mkF mM 238 #[.val (.int p1), .val (.int p2), .val (.int p3), .val (.int p4), .val (.int (7 : Int32)), .val (.ref b1_), .val (.ref b218_), .val (.int vq), .val (.ref b_256_), .unset, .unset] [(.ref b_256_)])) tT
      refine XS.iload X256_.here hx rfl (Jvm.hb hby at_238) rfl ?_
      show Steps pP.tables eE below (T256_.setTop (mkF mM 240 #[.val (.int p1), .val (.int p2), .val (.int p3), .val (.int p4), .val (.int (7 : Int32)), .val (.ref b1_), .val (.ref b218_), .val (.int vq), .val (.ref b_256_), .unset, .unset] [(.int vq), (.ref b_256_)])) tT
      exact kK
    obtain ⟨cl262_, Ar262_, Sz262_, Nn262_, Hh262_⟩ := id p256__2
    have hin262_ : ¬ (vq < 0 ∨ cl262_.slots.size ≤ (vq).toNatClampNeg) := inb_of Sz262_ hq
    have hat262_ : cl262_.slots[(vq).toNatClampNeg]? = some (.int ((own_ft ([x0, x1, x2, x3, x4, x5, x6] : List Int32) (7 : Int32).toNatClampNeg) vq)) := Hh262_ _ hin262_
    refine own_fin (b := T256_.setTop (mkF mM 247 #[.val (.int p1), .val (.int p2), .val (.int p3), .val (.int p4), .val (.int (7 : Int32)), .val (.ref b1_), .val (.ref b218_), .val (.int vq), .val (.ref b_256_), .unset, .unset] [(.int vq), (.int (7 : Int32)), (.ref b1_), (.int ((own_ft ([x0, x1, x2, x3, x4, x5, x6] : List Int32) (7 : Int32).toNatClampNeg) vq))])) (fun tT kK => ?_) ?_
    · show Steps pP.tables eE below (T256_.setTop (mkF mM 240 #[.val (.int p1), .val (.int p2), .val (.int p3), .val (.int p4), .val (.int (7 : Int32)), .val (.ref b1_), .val (.ref b218_), .val (.int vq), .val (.ref b_256_), .unset, .unset] [(.int vq), (.ref b_256_)])) tT
      refine X256_.iaload hx (j := vq) (v := (.int ((own_ft ([x0, x1, x2, x3, x4, x5, x6] : List Int32) (7 : Int32).toNatClampNeg) vq))) (own_rw rfl Ar262_.1) (State.isArrayOf_alike hZ.alike Ar262_.2.1) Ar262_.2.2 hin262_ hat262_ (g := (mkF mM 240 #[.val (.int p1), .val (.int p2), .val (.int p3), .val (.int p4), .val (.int (7 : Int32)), .val (.ref b1_), .val (.ref b218_), .val (.int vq), .val (.ref b_256_), .unset, .unset] [(.int vq), (.ref b_256_)])) rfl rfl (Jvm.hb hby at_240) _ ?_
      show Steps pP.tables eE below (T256_.setTop (mkF mM 241 #[.val (.int p1), .val (.int p2), .val (.int p3), .val (.int p4), .val (.int (7 : Int32)), .val (.ref b1_), .val (.ref b218_), .val (.int vq), .val (.ref b_256_), .unset, .unset] [(.int ((own_ft ([x0, x1, x2, x3, x4, x5, x6] : List Int32) (7 : Int32).toNatClampNeg) vq))])) tT
      refine XS.aload X256_.here hx rfl (Jvm.hb hby at_241) rfl rfl ?_
      show Steps pP.tables eE below (T256_.setTop (mkF mM 243 #[.val (.int p1), .val (.int p2), .val (.int p3), .val (.int p4), .val (.int (7 : Int32)), .val (.ref b1_), .val (.ref b218_), .val (.int vq), .val (.ref b_256_), .unset, .unset] [(.ref b1_), (.int ((own_ft ([x0, x1, x2, x3, x4, x5, x6] : List Int32) (7 : Int32).toNatClampNeg) vq))])) tT
      refine XS.iload X256_.here hx rfl (Jvm.hb hby at_243) rfl ?_
      show Steps pP.tables eE below (T256_.setTop (mkF mM 245 #[.val (.int p1), .val (.int p2), .val (.int p3), .val (.int p4), .val (.int (7 : Int32)), .val (.ref b1_), .val (.ref b218_), .val (.int vq), .val (.ref b_256_), .unset, .unset] [(.int (7 : Int32)), (.ref b1_), (.int ((own_ft ([x0, x1, x2, x3, x4, x5, x6] : List Int32) (7 : Int32).toNatClampNeg) vq))])) tT
      refine XS.iload X256_.here hx rfl (Jvm.hb hby at_245) rfl ?_
      show Steps pP.tables eE below (T256_.setTop (mkF mM 247 #[.val (.int p1), .val (.int p2), .val (.int p3), .val (.int p4), .val (.int (7 : Int32)), .val (.ref b1_), .val (.ref b218_), .val (.int vq), .val (.ref b_256_), .unset, .unset] [(.int vq), (.int (7 : Int32)), (.ref b1_), (.int ((own_ft ([x0, x1, x2, x3, x4, x5, x6] : List Int32) (7 : Int32).toNatClampNeg) vq))])) tT
      exact kK
    obtain ⟨_, _, ⟨T263_, L263_, k263_, n263_⟩, -, X263_, ⟨Lc263_, hQ263_, l263_, y263_, z263_⟩, st263_⟩ := Jvm.LawKit.callS X256_ hx (y := (⟨"com/example/needlework/needlework/BoyerMooreRightmostPinLaw", "ref", "([BII)I"⟩ : MethodName)) hown (mvT hZ (hw _ (List.mem_of_getElem? (i := 10) rfl))) (mvT hZ (hw _ (List.mem_of_getElem? (i := 11) rfl))) (mvT hZ (hw _ (List.mem_of_getElem? (i := 12) rfl))) (mvT hZ (hw _ (List.mem_of_getElem? (i := 13) rfl))) (by decide) (backOf (W := 1) (rm_ref lL Z a0 hw [] b1_ k1_ (7 : Int32) vq x0 x1 x2 x3 x4 x5 x6 x7 T256_.heap n0 (Nat.le_trans Z0 K256_.1) fc259_) hZ (hw _ (List.mem_of_getElem? (i := 13) rfl)) (hw _ (List.mem_of_getElem? (i := 12) rfl)) (by decide) (by decide)) (g := (mkF mM 247 #[.val (.int p1), .val (.int p2), .val (.int p3), .val (.int p4), .val (.int (7 : Int32)), .val (.ref b1_), .val (.ref b218_), .val (.int vq), .val (.ref b_256_), .unset, .unset] [(.int vq), (.int (7 : Int32)), (.ref b1_), (.int ((own_ft ([x0, x1, x2, x3, x4, x5, x6] : List Int32) (7 : Int32).toNatClampNeg) vq))])) rfl (by rw [hml]; rfl) (argsL := [(.ref b1_), (.int (7 : Int32)), (.int vq)]) (rest := [(.int ((own_ft ([x0, x1, x2, x3, x4, x5, x6] : List Int32) (7 : Int32).toNatClampNeg) vq))]) (lenOf own_pd2 rfl) rfl (by show 2 * 0 + _ ≤ _; exact Nat.le_of_eq rfl) (Jvm.hb hby at_247) (fun _ _ => ⟨rfl, rfl, (by decide : 3 + 0 ≤ _), (by decide : 271 + 0 ≤ _)⟩)
    dsimp only [Pt.U, Pt.locs, Pt.cells, Pt.slots] at X263_ l263_ y263_ z263_ st263_ hQ263_
    subst l263_ y263_ z263_
    obtain ⟨rfl, N263_q, p263__0⟩ := hQ263_
    have N263_ := Fr.app N256_ N263_q
    refine own_fin (fun tT kK => st263_ tT kK) ?_
    show own_Fin pP eE below _ (T263_.setTop (mkF mM 250 #[.val (.int p1), .val (.int p2), .val (.int p3), .val (.int p4), .val (.int (7 : Int32)), .val (.ref b1_), .val (.ref b218_), .val (.int vq), .val (.ref b_256_), .unset, .unset] [(.int (own_ref (7 : Int32) vq x0 x1 x2 x3 x4 x5 x6 x7)), (.int ((own_ft ([x0, x1, x2, x3, x4, x5, x6] : List Int32) (7 : Int32).toNatClampNeg) vq))]))
    refine own_fin (b := T263_.setTop (mkF mM 271 #[.val (.int p1), .val (.int p2), .val (.int p3), .val (.int p4), .val (.int (7 : Int32)), .val (.ref b1_), .val (.ref b218_), .val (.int vq), .val (.ref b_256_), .val (.int (1 : Int32)), .unset] [(.int (6 : Int32)), (.ref b1_)])) (fun tT kK => ?_) ?_
    · show Steps pP.tables eE below (T263_.setTop (mkF mM 250 #[.val (.int p1), .val (.int p2), .val (.int p3), .val (.int p4), .val (.int (7 : Int32)), .val (.ref b1_), .val (.ref b218_), .val (.int vq), .val (.ref b_256_), .unset, .unset] [(.int (own_ref (7 : Int32) vq x0 x1 x2 x3 x4 x5 x6 x7)), (.int ((own_ft ([x0, x1, x2, x3, x4, x5, x6] : List Int32) (7 : Int32).toNatClampNeg) vq))])) tT
      refine XS.icmpNo X263_.here hx rfl (Jvm.hb hby at_250) rfl (teq (own_e7 vq x0 x1 x2 x3 x4 x5 x6 x7 : ((own_ft ([x0, x1, x2, x3, x4, x5, x6] : List Int32) (7 : Int32).toNatClampNeg) vq) = (own_ref (7 : Int32) vq x0 x1 x2 x3 x4 x5 x6 x7))).2 ?_
      show Steps pP.tables eE below (T263_.setTop (mkF mM 253 #[.val (.int p1), .val (.int p2), .val (.int p3), .val (.int p4), .val (.int (7 : Int32)), .val (.ref b1_), .val (.ref b218_), .val (.int vq), .val (.ref b_256_), .unset, .unset] [])) tT
      refine XS.iconst X263_.here hx rfl (Jvm.hb hby at_253) ?_
      show Steps pP.tables eE below (T263_.setTop (mkF mM 254 #[.val (.int p1), .val (.int p2), .val (.int p3), .val (.int p4), .val (.int (7 : Int32)), .val (.ref b1_), .val (.ref b218_), .val (.int vq), .val (.ref b_256_), .unset, .unset] [(.int (1 : Int32))])) tT
      refine XS.goto X263_.here hx rfl (pc0 := 254) (pc' := 258) rfl (Jvm.hb hby at_254) (by decide) (by decide) ?_
      show Steps pP.tables eE below (T263_.setTop (mkF mM 258 #[.val (.int p1), .val (.int p2), .val (.int p3), .val (.int p4), .val (.int (7 : Int32)), .val (.ref b1_), .val (.ref b218_), .val (.int vq), .val (.ref b_256_), .unset, .unset] [(.int (1 : Int32))])) tT
      refine XS.istore X263_.here hx rfl (Jvm.hb hby at_258) rfl (l' := #[.val (.int p1), .val (.int p2), .val (.int p3), .val (.int p4), .val (.int (7 : Int32)), .val (.ref b1_), .val (.ref b218_), .val (.int vq), .val (.ref b_256_), .val (.int (1 : Int32)), .unset]) rfl ?_
      show Steps pP.tables eE below (T263_.setTop (mkF mM 260 #[.val (.int p1), .val (.int p2), .val (.int p3), .val (.int p4), .val (.int (7 : Int32)), .val (.ref b1_), .val (.ref b218_), .val (.int vq), .val (.ref b_256_), .val (.int (1 : Int32)), .unset] [])) tT
      refine XS.iload X263_.here hx rfl (Jvm.hb hby at_260) rfl ?_
      show Steps pP.tables eE below (T263_.setTop (mkF mM 262 #[.val (.int p1), .val (.int p2), .val (.int p3), .val (.int p4), .val (.int (7 : Int32)), .val (.ref b1_), .val (.ref b218_), .val (.int vq), .val (.ref b_256_), .val (.int (1 : Int32)), .unset] [(.int (7 : Int32))])) tT
      refine XS.ifNo X263_.here hx rfl (Jvm.hb hby at_262) rfl ((if0 _ _).trans (tlt ((by decide) : (0 : Int32) < (7 : Int32))).2.2.2) ?_
      show Steps pP.tables eE below (T263_.setTop (mkF mM 265 #[.val (.int p1), .val (.int p2), .val (.int p3), .val (.int p4), .val (.int (7 : Int32)), .val (.ref b1_), .val (.ref b218_), .val (.int vq), .val (.ref b_256_), .val (.int (1 : Int32)), .unset] [])) tT
      refine XS.aload X263_.here hx rfl (Jvm.hb hby at_265) rfl rfl ?_
      show Steps pP.tables eE below (T263_.setTop (mkF mM 267 #[.val (.int p1), .val (.int p2), .val (.int p3), .val (.int p4), .val (.int (7 : Int32)), .val (.ref b1_), .val (.ref b218_), .val (.int vq), .val (.ref b_256_), .val (.int (1 : Int32)), .unset] [(.ref b1_)])) tT
      refine XS.iload X263_.here hx rfl (Jvm.hb hby at_267) rfl ?_
      show Steps pP.tables eE below (T263_.setTop (mkF mM 269 #[.val (.int p1), .val (.int p2), .val (.int p3), .val (.int p4), .val (.int (7 : Int32)), .val (.ref b1_), .val (.ref b218_), .val (.int vq), .val (.ref b_256_), .val (.int (1 : Int32)), .unset] [(.int (7 : Int32)), (.ref b1_)])) tT
      refine XS.iconst X263_.here hx rfl (Jvm.hb hby at_269) ?_
      show Steps pP.tables eE below (T263_.setTop (mkF mM 270 #[.val (.int p1), .val (.int p2), .val (.int p3), .val (.int p4), .val (.int (7 : Int32)), .val (.ref b1_), .val (.ref b218_), .val (.int vq), .val (.ref b_256_), .val (.int (1 : Int32)), .unset] [(.int (1 : Int32)), (.int (7 : Int32)), (.ref b1_)])) tT
      refine XS.isub X263_.here hx rfl (Jvm.hb hby at_270) rfl ?_
      show Steps pP.tables eE below (T263_.setTop (mkF mM 271 #[.val (.int p1), .val (.int p2), .val (.int p3), .val (.int p4), .val (.int (7 : Int32)), .val (.ref b1_), .val (.ref b218_), .val (.int vq), .val (.ref b_256_), .val (.int (1 : Int32)), .unset] [(.int (6 : Int32)), (.ref b1_)])) tT
      exact kK
    obtain ⟨cl264_, Ar264_, qk264_, Sz264_, Nn264_, Hh264_, Gg264_⟩ := id fc259_
    have hin265_ : ¬ ((6 : Int32) < 0 ∨ cl264_.slots.size ≤ ((6 : Int32)).toNatClampNeg) := inb_of Sz264_ ⟨by decide, by decide⟩
    have hat265_ : cl264_.slots[((6 : Int32)).toNatClampNeg]? = some (.int x6) := Hh264_.at hin265_ rfl
    refine own_fin (b := T263_.setTop (mkF mM 287 #[.val (.int p1), .val (.int p2), .val (.int p3), .val (.int p4), .val (.int (7 : Int32)), .val (.ref b1_), .val (.ref b218_), .val (.int vq), .val (.ref b_256_), .val (.int (1 : Int32)), .val (.int (x6 &&& (255 : Int32)))] [(.int (x6 &&& (255 : Int32))), (.ref b_256_)])) (fun tT kK => ?_) ?_
    · show Steps pP.tables eE below (T263_.setTop (mkF mM 271 #[.val (.int p1), .val (.int p2), .val (.int p3), .val (.int p4), .val (.int (7 : Int32)), .val (.ref b1_), .val (.ref b218_), .val (.int vq), .val (.ref b_256_), .val (.int (1 : Int32)), .unset] [(.int (6 : Int32)), (.ref b1_)])) tT
      refine X263_.baloadBytes hx (j := (6 : Int32)) (v := (.int x6)) (own_rw p263__0 Ar264_.1) (State.isArrayOf_alike hZ.alike Ar264_.2.1) Ar264_.2.2 hin265_ hat265_ (g := (mkF mM 271 #[.val (.int p1), .val (.int p2), .val (.int p3), .val (.int p4), .val (.int (7 : Int32)), .val (.ref b1_), .val (.ref b218_), .val (.int vq), .val (.ref b_256_), .val (.int (1 : Int32)), .unset] [(.int (6 : Int32)), (.ref b1_)])) rfl rfl (Jvm.hb hby at_271) _ ?_
      show Steps pP.tables eE below (T263_.setTop (mkF mM 272 #[.val (.int p1), .val (.int p2), .val (.int p3), .val (.int p4), .val (.int (7 : Int32)), .val (.ref b1_), .val (.ref b218_), .val (.int vq), .val (.ref b_256_), .val (.int (1 : Int32)), .unset] [(.int x6)])) tT
      refine XS.sipush X263_.here hx rfl (Jvm.hb hby at_272) ?_
      show Steps pP.tables eE below (T263_.setTop (mkF mM 275 #[.val (.int p1), .val (.int p2), .val (.int p3), .val (.int p4), .val (.int (7 : Int32)), .val (.ref b1_), .val (.ref b218_), .val (.int vq), .val (.ref b_256_), .val (.int (1 : Int32)), .unset] [(.int (255 : Int32)), (.int x6)])) tT
      refine XS.iand X263_.here hx rfl (Jvm.hb hby at_275) rfl ?_
      show Steps pP.tables eE below (T263_.setTop (mkF mM 276 #[.val (.int p1), .val (.int p2), .val (.int p3), .val (.int p4), .val (.int (7 : Int32)), .val (.ref b1_), .val (.ref b218_), .val (.int vq), .val (.ref b_256_), .val (.int (1 : Int32)), .unset] [(.int (x6 &&& (255 : Int32)))])) tT
      refine XS.istore X263_.here hx rfl (Jvm.hb hby at_276) rfl (l' := #[.val (.int p1), .val (.int p2), .val (.int p3), .val (.int p4), .val (.int (7 : Int32)), .val (.ref b1_), .val (.ref b218_), .val (.int vq), .val (.ref b_256_), .val (.int (1 : Int32)), .val (.int (x6 &&& (255 : Int32)))]) rfl ?_
      show Steps pP.tables eE below (T263_.setTop (mkF mM 278 #[.val (.int p1), .val (.int p2), .val (.int p3), .val (.int p4), .val (.int (7 : Int32)), .val (.ref b1_), .val (.ref b218_), .val (.int vq), .val (.ref b_256_), .val (.int (1 : Int32)), .val (.int (x6 &&& (255 : Int32)))] [])) tT
      refine XS.iload X263_.here hx rfl (Jvm.hb hby at_278) rfl ?_
      show Steps pP.tables eE below (T263_.setTop (mkF mM 280 #[.val (.int p1), .val (.int p2), .val (.int p3), .val (.int p4), .val (.int (7 : Int32)), .val (.ref b1_), .val (.ref b218_), .val (.int vq), .val (.ref b_256_), .val (.int (1 : Int32)), .val (.int (x6 &&& (255 : Int32)))] [(.int (1 : Int32))])) tT
      refine XS.ifNo X263_.here hx rfl (Jvm.hb hby at_280) rfl ((if0 _ _).trans (feq ((by decide) : ¬ ((1 : Int32) = (0 : Int32)))).1) ?_
      show Steps pP.tables eE below (T263_.setTop (mkF mM 283 #[.val (.int p1), .val (.int p2), .val (.int p3), .val (.int p4), .val (.int (7 : Int32)), .val (.ref b1_), .val (.ref b218_), .val (.int vq), .val (.ref b_256_), .val (.int (1 : Int32)), .val (.int (x6 &&& (255 : Int32)))] [])) tT
      refine XS.aload X263_.here hx rfl (Jvm.hb hby at_283) rfl rfl ?_
      show Steps pP.tables eE below (T263_.setTop (mkF mM 285 #[.val (.int p1), .val (.int p2), .val (.int p3), .val (.int p4), .val (.int (7 : Int32)), .val (.ref b1_), .val (.ref b218_), .val (.int vq), .val (.ref b_256_), .val (.int (1 : Int32)), .val (.int (x6 &&& (255 : Int32)))] [(.ref b_256_)])) tT
      refine XS.iload X263_.here hx rfl (Jvm.hb hby at_285) rfl ?_
      show Steps pP.tables eE below (T263_.setTop (mkF mM 287 #[.val (.int p1), .val (.int p2), .val (.int p3), .val (.int p4), .val (.int (7 : Int32)), .val (.ref b1_), .val (.ref b218_), .val (.int vq), .val (.ref b_256_), .val (.int (1 : Int32)), .val (.int (x6 &&& (255 : Int32)))] [(.int (x6 &&& (255 : Int32))), (.ref b_256_)])) tT
      exact kK
    obtain ⟨cl266_, Ar266_, Sz266_, Nn266_, Hh266_⟩ := id p256__2
    have hin266_ : ¬ ((x6 &&& (255 : Int32)) < 0 ∨ cl266_.slots.size ≤ ((x6 &&& (255 : Int32))).toNatClampNeg) := inb_of Sz266_ (own_m255 x6)
    have hat266_ : cl266_.slots[((x6 &&& (255 : Int32))).toNatClampNeg]? = some (.int ((own_ft ([x0, x1, x2, x3, x4, x5, x6] : List Int32) (7 : Int32).toNatClampNeg) (x6 &&& (255 : Int32)))) := Hh266_ _ hin266_
    refine own_fin (b := T263_.setTop (mkF mM 304 #[.val (.int p1), .val (.int p2), .val (.int p3), .val (.int p4), .val (.int (7 : Int32)), .val (.ref b1_), .val (.ref b218_), .val (.int vq), .val (.ref b_256_), .val (.int (1 : Int32)), .val (.int (x6 &&& (255 : Int32)))] [(.int (1 : Int32))])) (fun tT kK => ?_) ?_
    · show Steps pP.tables eE below (T263_.setTop (mkF mM 287 #[.val (.int p1), .val (.int p2), .val (.int p3), .val (.int p4), .val (.int (7 : Int32)), .val (.ref b1_), .val (.ref b218_), .val (.int vq), .val (.ref b_256_), .val (.int (1 : Int32)), .val (.int (x6 &&& (255 : Int32)))] [(.int (x6 &&& (255 : Int32))), (.ref b_256_)])) tT
      refine X263_.iaload hx (j := (x6 &&& (255 : Int32))) (v := (.int ((own_ft ([x0, x1, x2, x3, x4, x5, x6] : List Int32) (7 : Int32).toNatClampNeg) (x6 &&& (255 : Int32))))) (own_rw p263__0 Ar266_.1) (State.isArrayOf_alike hZ.alike Ar266_.2.1) Ar266_.2.2 hin266_ hat266_ (g := (mkF mM 287 #[.val (.int p1), .val (.int p2), .val (.int p3), .val (.int p4), .val (.int (7 : Int32)), .val (.ref b1_), .val (.ref b218_), .val (.int vq), .val (.ref b_256_), .val (.int (1 : Int32)), .val (.int (x6 &&& (255 : Int32)))] [(.int (x6 &&& (255 : Int32))), (.ref b_256_)])) rfl rfl (Jvm.hb hby at_287) _ ?_
      show Steps pP.tables eE below (T263_.setTop (mkF mM 288 #[.val (.int p1), .val (.int p2), .val (.int p3), .val (.int p4), .val (.int (7 : Int32)), .val (.ref b1_), .val (.ref b218_), .val (.int vq), .val (.ref b_256_), .val (.int (1 : Int32)), .val (.int (x6 &&& (255 : Int32)))] [(.int ((own_ft ([x0, x1, x2, x3, x4, x5, x6] : List Int32) (7 : Int32).toNatClampNeg) (x6 &&& (255 : Int32))))])) tT
      refine XS.iload X263_.here hx rfl (Jvm.hb hby at_288) rfl ?_
      show Steps pP.tables eE below (T263_.setTop (mkF mM 290 #[.val (.int p1), .val (.int p2), .val (.int p3), .val (.int p4), .val (.int (7 : Int32)), .val (.ref b1_), .val (.ref b218_), .val (.int vq), .val (.ref b_256_), .val (.int (1 : Int32)), .val (.int (x6 &&& (255 : Int32)))] [(.int (7 : Int32)), (.int ((own_ft ([x0, x1, x2, x3, x4, x5, x6] : List Int32) (7 : Int32).toNatClampNeg) (x6 &&& (255 : Int32))))])) tT
      refine XS.iconst X263_.here hx rfl (Jvm.hb hby at_290) ?_
      show Steps pP.tables eE below (T263_.setTop (mkF mM 291 #[.val (.int p1), .val (.int p2), .val (.int p3), .val (.int p4), .val (.int (7 : Int32)), .val (.ref b1_), .val (.ref b218_), .val (.int vq), .val (.ref b_256_), .val (.int (1 : Int32)), .val (.int (x6 &&& (255 : Int32)))] [(.int (1 : Int32)), (.int (7 : Int32)), (.int ((own_ft ([x0, x1, x2, x3, x4, x5, x6] : List Int32) (7 : Int32).toNatClampNeg) (x6 &&& (255 : Int32))))])) tT
      refine XS.isub X263_.here hx rfl (Jvm.hb hby at_291) rfl ?_
      show Steps pP.tables eE below (T263_.setTop (mkF mM 292 #[.val (.int p1), .val (.int p2), .val (.int p3), .val (.int p4), .val (.int (7 : Int32)), .val (.ref b1_), .val (.ref b218_), .val (.int vq), .val (.ref b_256_), .val (.int (1 : Int32)), .val (.int (x6 &&& (255 : Int32)))] [(.int (6 : Int32)), (.int ((own_ft ([x0, x1, x2, x3, x4, x5, x6] : List Int32) (7 : Int32).toNatClampNeg) (x6 &&& (255 : Int32))))])) tT
      refine XS.icmpNo X263_.here hx rfl (Jvm.hb hby at_292) rfl (teq (own_last ([x0, x1, x2, x3, x4, x5, x6] : List Int32) 6 : ((own_ft ([x0, x1, x2, x3, x4, x5, x6] : List Int32) (7 : Int32).toNatClampNeg) (x6 &&& (255 : Int32))) = (6 : Int32))).2 ?_
      show Steps pP.tables eE below (T263_.setTop (mkF mM 295 #[.val (.int p1), .val (.int p2), .val (.int p3), .val (.int p4), .val (.int (7 : Int32)), .val (.ref b1_), .val (.ref b218_), .val (.int vq), .val (.ref b_256_), .val (.int (1 : Int32)), .val (.int (x6 &&& (255 : Int32)))] [])) tT
      refine XS.iconst X263_.here hx rfl (Jvm.hb hby at_295) ?_
      show Steps pP.tables eE below (T263_.setTop (mkF mM 296 #[.val (.int p1), .val (.int p2), .val (.int p3), .val (.int p4), .val (.int (7 : Int32)), .val (.ref b1_), .val (.ref b218_), .val (.int vq), .val (.ref b_256_), .val (.int (1 : Int32)), .val (.int (x6 &&& (255 : Int32)))] [(.int (1 : Int32))])) tT
      refine XS.goto X263_.here hx rfl (pc0 := 296) (pc' := 300) rfl (Jvm.hb hby at_296) (by decide) (by decide) ?_
      show Steps pP.tables eE below (T263_.setTop (mkF mM 300 #[.val (.int p1), .val (.int p2), .val (.int p3), .val (.int p4), .val (.int (7 : Int32)), .val (.ref b1_), .val (.ref b218_), .val (.int vq), .val (.ref b_256_), .val (.int (1 : Int32)), .val (.int (x6 &&& (255 : Int32)))] [(.int (1 : Int32))])) tT
      refine XS.istore X263_.here hx rfl (Jvm.hb hby at_300) rfl (l' := #[.val (.int p1), .val (.int p2), .val (.int p3), .val (.int p4), .val (.int (7 : Int32)), .val (.ref b1_), .val (.ref b218_), .val (.int vq), .val (.ref b_256_), .val (.int (1 : Int32)), .val (.int (x6 &&& (255 : Int32)))]) rfl ?_
      show Steps pP.tables eE below (T263_.setTop (mkF mM 302 #[.val (.int p1), .val (.int p2), .val (.int p3), .val (.int p4), .val (.int (7 : Int32)), .val (.ref b1_), .val (.ref b218_), .val (.int vq), .val (.ref b_256_), .val (.int (1 : Int32)), .val (.int (x6 &&& (255 : Int32)))] [])) tT
      refine XS.iload X263_.here hx rfl (Jvm.hb hby at_302) rfl ?_
      show Steps pP.tables eE below (T263_.setTop (mkF mM 304 #[.val (.int p1), .val (.int p2), .val (.int p3), .val (.int p4), .val (.int (7 : Int32)), .val (.ref b1_), .val (.ref b218_), .val (.int vq), .val (.ref b_256_), .val (.int (1 : Int32)), .val (.int (x6 &&& (255 : Int32)))] [(.int (1 : Int32))])) tT
      exact kK
    obtain ⟨fs, hr, hrun, hended, hW, hsame⟩ := X263_.leave (v := some (.int (1 : Int32))) (fun h => by rw [Bd.returns] at h; cases h)
    refine ⟨_, _, ?_, hrun, hended, _, _, rfl, ?_, ⟨_, rfl⟩, hW, hsame.mono (by decide) (by decide)⟩
    · show Steps pP.tables eE below (T263_.setTop (mkF mM 304 #[.val (.int p1), .val (.int p2), .val (.int p3), .val (.int p4), .val (.int (7 : Int32)), .val (.ref b1_), .val (.ref b218_), .val (.int vq), .val (.ref b_256_), .val (.int (1 : Int32)), .val (.int (x6 &&& (255 : Int32)))] [(.int (1 : Int32))])) _
      exact retN X263_ hx (t := .boolean) Bd.returns (by simp) (Jvm.hb hby at_304) hr
    · show Q_rm0 Z p1 p2 p3 p4 h0 n0 _ T263_.heap _
      rw [p263__0]
      exact ⟨rfl, N263_⟩
  · show own_Fin pP eE below _ (T17_.setTop (mkF mM 83 #[.val (.int p1), .val (.int p2), .val (.int p3), .val (.int p4), .val (.int (8 : Int32)), .val (.ref b1_), .unset, .unset, .unset, .unset, .unset] []))
    refine own_fin (b := T17_.setTop (mkF mM 85 #[.val (.int p1), .val (.int p2), .val (.int p3), .val (.int p4), .val (.int (8 : Int32)), .val (.ref b1_), .unset, .unset, .unset, .unset, .unset] [(.int (8 : Int32))])) (fun tT kK => ?_) ?_
    · show Steps pP.tables eE below (T17_.setTop (mkF mM 83 #[.val (.int p1), .val (.int p2), .val (.int p3), .val (.int p4), .val (.int (8 : Int32)), .val (.ref b1_), .unset, .unset, .unset, .unset, .unset] [])) tT
      refine XS.iload X17_.here hx rfl (Jvm.hb hby at_83) rfl ?_
      show Steps pP.tables eE below (T17_.setTop (mkF mM 85 #[.val (.int p1), .val (.int p2), .val (.int p3), .val (.int p4), .val (.int (8 : Int32)), .val (.ref b1_), .unset, .unset, .unset, .unset, .unset] [(.int (8 : Int32))])) tT
      exact kK
    obtain ⟨T267_, h267_, k267_, X267_, e267_, E267_, A267_, st267_⟩ := newP X17_ hx hZ (hw _ (List.mem_of_getElem? (i := 0) rfl)) e17_ (g := (mkF mM 85 #[.val (.int p1), .val (.int p2), .val (.int p3), .val (.int p4), .val (.int (8 : Int32)), .val (.ref b1_), .unset, .unset, .unset, .unset, .unset] [(.int (8 : Int32))])) rfl (Jvm.hb hby at_85) rfl (by decide) (cap := 8) (by decide) (by decide) (by decide) (by decide)
    obtain ⟨b267_, g267_⟩ : ∃ z, z = h17_.size := ⟨_, rfl⟩
    rw [← g267_] at A267_ st267_
    have sz_b267_ : h0.size ≤ b267_ := Nat.le_trans K17_.1 (Nat.le_of_eq g267_.symm)
    have ge_b267_ : n0 ≤ b267_ := Nat.le_trans Z0 sz_b267_
    have ne268_ : b1_ ≠ b267_ := Nat.ne_of_lt (Nat.lt_of_lt_of_le V17_.lt (Nat.le_of_eq g267_.symm))
    have fc269_ := V17_.ext E267_
    have K267_ := K17_.ext E267_
    have V267_ : Arv Z h267_ b267_ k267_ .byte (8 : Int32) [(.int (0 : Int32)), (.int (0 : Int32)), (.int (0 : Int32)), (.int (0 : Int32)), (.int (0 : Int32)), (.int (0 : Int32)), (.int (0 : Int32)), (.int (0 : Int32))] (.int (0 : Int32)) := (Arv.new A267_ (by decide)).pad (pad_rep [] (.int (0 : Int32)) 8)
    refine own_fin st267_ ?_
    show own_Fin pP eE below _ (T267_.setTop (mkF mM 87 #[.val (.int p1), .val (.int p2), .val (.int p3), .val (.int p4), .val (.int (8 : Int32)), .val (.ref b1_), .unset, .unset, .unset, .unset, .unset] [(.ref b267_)]))
    refine own_fin (b := T267_.setTop (mkF mM 100 #[.val (.int p1), .val (.int p2), .val (.int p3), .val (.int p4), .val (.int (8 : Int32)), .val (.ref b1_), .val (.ref b267_), .unset, .unset, .unset, .unset] [(.int (0 : Int32)), (.ref b1_), (.int (0 : Int32)), (.ref b267_)])) (fun tT kK => ?_) ?_
    · show Steps pP.tables eE below (T267_.setTop (mkF mM 87 #[.val (.int p1), .val (.int p2), .val (.int p3), .val (.int p4), .val (.int (8 : Int32)), .val (.ref b1_), .unset, .unset, .unset, .unset, .unset] [(.ref b267_)])) tT
      refine XS.astore X267_.here hx rfl (Jvm.hb hby at_87) rfl rfl (l' := #[.val (.int p1), .val (.int p2), .val (.int p3), .val (.int p4), .val (.int (8 : Int32)), .val (.ref b1_), .val (.ref b267_), .unset, .unset, .unset, .unset]) rfl ?_
      show Steps pP.tables eE below (T267_.setTop (mkF mM 89 #[.val (.int p1), .val (.int p2), .val (.int p3), .val (.int p4), .val (.int (8 : Int32)), .val (.ref b1_), .val (.ref b267_), .unset, .unset, .unset, .unset] [])) tT
      refine XS.iload X267_.here hx rfl (Jvm.hb hby at_89) rfl ?_
      show Steps pP.tables eE below (T267_.setTop (mkF mM 91 #[.val (.int p1), .val (.int p2), .val (.int p3), .val (.int p4), .val (.int (8 : Int32)), .val (.ref b1_), .val (.ref b267_), .unset, .unset, .unset, .unset] [(.int (8 : Int32))])) tT
      refine XS.ifNo X267_.here hx rfl (Jvm.hb hby at_91) rfl ((if0 _ _).trans (tlt ((by decide) : (0 : Int32) < (8 : Int32))).2.2.2) ?_
      show Steps pP.tables eE below (T267_.setTop (mkF mM 94 #[.val (.int p1), .val (.int p2), .val (.int p3), .val (.int p4), .val (.int (8 : Int32)), .val (.ref b1_), .val (.ref b267_), .unset, .unset, .unset, .unset] [])) tT
      refine XS.aload X267_.here hx rfl (Jvm.hb hby at_94) rfl rfl ?_
      show Steps pP.tables eE below (T267_.setTop (mkF mM 96 #[.val (.int p1), .val (.int p2), .val (.int p3), .val (.int p4), .val (.int (8 : Int32)), .val (.ref b1_), .val (.ref b267_), .unset, .unset, .unset, .unset] [(.ref b267_)])) tT
      refine XS.iconst X267_.here hx rfl (Jvm.hb hby at_96) ?_
      show Steps pP.tables eE below (T267_.setTop (mkF mM 97 #[.val (.int p1), .val (.int p2), .val (.int p3), .val (.int p4), .val (.int (8 : Int32)), .val (.ref b1_), .val (.ref b267_), .unset, .unset, .unset, .unset] [(.int (0 : Int32)), (.ref b267_)])) tT
      refine XS.aload X267_.here hx rfl (Jvm.hb hby at_97) rfl rfl ?_
      show Steps pP.tables eE below (T267_.setTop (mkF mM 99 #[.val (.int p1), .val (.int p2), .val (.int p3), .val (.int p4), .val (.int (8 : Int32)), .val (.ref b1_), .val (.ref b267_), .unset, .unset, .unset, .unset] [(.ref b1_), (.int (0 : Int32)), (.ref b267_)])) tT
      refine XS.iconst X267_.here hx rfl (Jvm.hb hby at_99) ?_
      show Steps pP.tables eE below (T267_.setTop (mkF mM 100 #[.val (.int p1), .val (.int p2), .val (.int p3), .val (.int p4), .val (.int (8 : Int32)), .val (.ref b1_), .val (.ref b267_), .unset, .unset, .unset, .unset] [(.int (0 : Int32)), (.ref b1_), (.int (0 : Int32)), (.ref b267_)])) tT
      exact kK
    obtain ⟨cl270_, Ar270_, qk270_, Sz270_, Nn270_, Hh270_, Gg270_⟩ := id fc269_
    have hin271_ : ¬ ((0 : Int32) < 0 ∨ cl270_.slots.size ≤ ((0 : Int32)).toNatClampNeg) := inb_of Sz270_ ⟨by decide, by decide⟩
    have hat271_ : cl270_.slots[((0 : Int32)).toNatClampNeg]? = some (.int x0) := Hh270_.at hin271_ rfl
    refine own_fin (b := T267_.setTop (mkF mM 101 #[.val (.int p1), .val (.int p2), .val (.int p3), .val (.int p4), .val (.int (8 : Int32)), .val (.ref b1_), .val (.ref b267_), .unset, .unset, .unset, .unset] [(.int x0), (.int (0 : Int32)), (.ref b267_)])) (fun tT kK => ?_) ?_
    · show Steps pP.tables eE below (T267_.setTop (mkF mM 100 #[.val (.int p1), .val (.int p2), .val (.int p3), .val (.int p4), .val (.int (8 : Int32)), .val (.ref b1_), .val (.ref b267_), .unset, .unset, .unset, .unset] [(.int (0 : Int32)), (.ref b1_), (.int (0 : Int32)), (.ref b267_)])) tT
      refine X267_.baloadBytes hx (j := (0 : Int32)) (v := (.int x0)) (own_rw e267_ Ar270_.1) (State.isArrayOf_alike hZ.alike Ar270_.2.1) Ar270_.2.2 hin271_ hat271_ (g := (mkF mM 100 #[.val (.int p1), .val (.int p2), .val (.int p3), .val (.int p4), .val (.int (8 : Int32)), .val (.ref b1_), .val (.ref b267_), .unset, .unset, .unset, .unset] [(.int (0 : Int32)), (.ref b1_), (.int (0 : Int32)), (.ref b267_)])) rfl rfl (Jvm.hb hby at_100) _ ?_
      show Steps pP.tables eE below (T267_.setTop (mkF mM 101 #[.val (.int p1), .val (.int p2), .val (.int p3), .val (.int p4), .val (.int (8 : Int32)), .val (.ref b1_), .val (.ref b267_), .unset, .unset, .unset, .unset] [(.int x0), (.int (0 : Int32)), (.ref b267_)])) tT
      exact kK
    obtain ⟨cl272_, Ar272_, qk272_, Sz272_, Nn272_, Hh272_, Gg272_⟩ := id V267_
    have hin273_ : ¬ ((0 : Int32) < 0 ∨ cl272_.slots.size ≤ ((0 : Int32)).toNatClampNeg) := inb_of Sz272_ ⟨by decide, by decide⟩
    obtain ⟨T273_, h273_, X273_, e273_, W273_, st273_⟩ := stB X267_ hx hZ e267_ Ar272_ (j := (0 : Int32)) hin273_ (g := (mkF mM 101 #[.val (.int p1), .val (.int p2), .val (.int p3), .val (.int p4), .val (.int (8 : Int32)), .val (.ref b1_), .val (.ref b267_), .unset, .unset, .unset, .unset] [(.int x0), (.int (0 : Int32)), (.ref b267_)])) rfl rfl (Jvm.hb hby at_101)
    have V273_ : Arv Z h273_ b267_ k267_ .byte (8 : Int32) [(.int (nar .byte x0)), (.int (0 : Int32)), (.int (0 : Int32)), (.int (0 : Int32)), (.int (0 : Int32)), (.int (0 : Int32)), (.int (0 : Int32)), (.int (0 : Int32))] (.int (0 : Int32)) := Arv.set Ar272_ qk272_ Sz272_ Nn272_ Hh272_ Gg272_ (fits_nar_byte _) W273_ 0 rfl (Nat.le_of_ble_eq_true rfl)
    have fc274_ := fc269_.other W273_ ne268_
    have K273_ := K267_.wr W273_ (Or.inr sz_b267_)
    have N273_ := Fr.snoc X273_ N17_ ge_b267_
    refine own_fin st273_ ?_
    show own_Fin pP eE below _ (T273_.setTop (mkF mM 102 #[.val (.int p1), .val (.int p2), .val (.int p3), .val (.int p4), .val (.int (8 : Int32)), .val (.ref b1_), .val (.ref b267_), .unset, .unset, .unset, .unset] []))
    refine own_fin (b := T273_.setTop (mkF mM 114 #[.val (.int p1), .val (.int p2), .val (.int p3), .val (.int p4), .val (.int (8 : Int32)), .val (.ref b1_), .val (.ref b267_), .unset, .unset, .unset, .unset] [(.int (1 : Int32)), (.ref b1_), (.int (1 : Int32)), (.ref b267_)])) (fun tT kK => ?_) ?_
    · show Steps pP.tables eE below (T273_.setTop (mkF mM 102 #[.val (.int p1), .val (.int p2), .val (.int p3), .val (.int p4), .val (.int (8 : Int32)), .val (.ref b1_), .val (.ref b267_), .unset, .unset, .unset, .unset] [])) tT
      refine XS.iload X273_.here hx rfl (Jvm.hb hby at_102) rfl ?_
      show Steps pP.tables eE below (T273_.setTop (mkF mM 104 #[.val (.int p1), .val (.int p2), .val (.int p3), .val (.int p4), .val (.int (8 : Int32)), .val (.ref b1_), .val (.ref b267_), .unset, .unset, .unset, .unset] [(.int (8 : Int32))])) tT
      refine XS.iconst X273_.here hx rfl (Jvm.hb hby at_104) ?_
      show Steps pP.tables eE below (T273_.setTop (mkF mM 105 #[.val (.int p1), .val (.int p2), .val (.int p3), .val (.int p4), .val (.int (8 : Int32)), .val (.ref b1_), .val (.ref b267_), .unset, .unset, .unset, .unset] [(.int (1 : Int32)), (.int (8 : Int32))])) tT
      refine XS.icmpNo X273_.here hx rfl (Jvm.hb hby at_105) rfl (tlt ((by decide) : (1 : Int32) < (8 : Int32))).2.2.2 ?_
      show Steps pP.tables eE below (T273_.setTop (mkF mM 108 #[.val (.int p1), .val (.int p2), .val (.int p3), .val (.int p4), .val (.int (8 : Int32)), .val (.ref b1_), .val (.ref b267_), .unset, .unset, .unset, .unset] [])) tT
      refine XS.aload X273_.here hx rfl (Jvm.hb hby at_108) rfl rfl ?_
      show Steps pP.tables eE below (T273_.setTop (mkF mM 110 #[.val (.int p1), .val (.int p2), .val (.int p3), .val (.int p4), .val (.int (8 : Int32)), .val (.ref b1_), .val (.ref b267_), .unset, .unset, .unset, .unset] [(.ref b267_)])) tT
      refine XS.iconst X273_.here hx rfl (Jvm.hb hby at_110) ?_
      show Steps pP.tables eE below (T273_.setTop (mkF mM 111 #[.val (.int p1), .val (.int p2), .val (.int p3), .val (.int p4), .val (.int (8 : Int32)), .val (.ref b1_), .val (.ref b267_), .unset, .unset, .unset, .unset] [(.int (1 : Int32)), (.ref b267_)])) tT
      refine XS.aload X273_.here hx rfl (Jvm.hb hby at_111) rfl rfl ?_
      show Steps pP.tables eE below (T273_.setTop (mkF mM 113 #[.val (.int p1), .val (.int p2), .val (.int p3), .val (.int p4), .val (.int (8 : Int32)), .val (.ref b1_), .val (.ref b267_), .unset, .unset, .unset, .unset] [(.ref b1_), (.int (1 : Int32)), (.ref b267_)])) tT
      refine XS.iconst X273_.here hx rfl (Jvm.hb hby at_113) ?_
      show Steps pP.tables eE below (T273_.setTop (mkF mM 114 #[.val (.int p1), .val (.int p2), .val (.int p3), .val (.int p4), .val (.int (8 : Int32)), .val (.ref b1_), .val (.ref b267_), .unset, .unset, .unset, .unset] [(.int (1 : Int32)), (.ref b1_), (.int (1 : Int32)), (.ref b267_)])) tT
      exact kK
    obtain ⟨cl275_, Ar275_, qk275_, Sz275_, Nn275_, Hh275_, Gg275_⟩ := id fc274_
    have hin276_ : ¬ ((1 : Int32) < 0 ∨ cl275_.slots.size ≤ ((1 : Int32)).toNatClampNeg) := inb_of Sz275_ ⟨by decide, by decide⟩
    have hat276_ : cl275_.slots[((1 : Int32)).toNatClampNeg]? = some (.int x1) := Hh275_.at hin276_ rfl
    refine own_fin (b := T273_.setTop (mkF mM 115 #[.val (.int p1), .val (.int p2), .val (.int p3), .val (.int p4), .val (.int (8 : Int32)), .val (.ref b1_), .val (.ref b267_), .unset, .unset, .unset, .unset] [(.int x1), (.int (1 : Int32)), (.ref b267_)])) (fun tT kK => ?_) ?_
    · show Steps pP.tables eE below (T273_.setTop (mkF mM 114 #[.val (.int p1), .val (.int p2), .val (.int p3), .val (.int p4), .val (.int (8 : Int32)), .val (.ref b1_), .val (.ref b267_), .unset, .unset, .unset, .unset] [(.int (1 : Int32)), (.ref b1_), (.int (1 : Int32)), (.ref b267_)])) tT
      refine X273_.baloadBytes hx (j := (1 : Int32)) (v := (.int x1)) (own_rw e273_ Ar275_.1) (State.isArrayOf_alike hZ.alike Ar275_.2.1) Ar275_.2.2 hin276_ hat276_ (g := (mkF mM 114 #[.val (.int p1), .val (.int p2), .val (.int p3), .val (.int p4), .val (.int (8 : Int32)), .val (.ref b1_), .val (.ref b267_), .unset, .unset, .unset, .unset] [(.int (1 : Int32)), (.ref b1_), (.int (1 : Int32)), (.ref b267_)])) rfl rfl (Jvm.hb hby at_114) _ ?_
      show Steps pP.tables eE below (T273_.setTop (mkF mM 115 #[.val (.int p1), .val (.int p2), .val (.int p3), .val (.int p4), .val (.int (8 : Int32)), .val (.ref b1_), .val (.ref b267_), .unset, .unset, .unset, .unset] [(.int x1), (.int (1 : Int32)), (.ref b267_)])) tT
      exact kK
    obtain ⟨cl277_, Ar277_, qk277_, Sz277_, Nn277_, Hh277_, Gg277_⟩ := id V273_
    have hin278_ : ¬ ((1 : Int32) < 0 ∨ cl277_.slots.size ≤ ((1 : Int32)).toNatClampNeg) := inb_of Sz277_ ⟨by decide, by decide⟩
    obtain ⟨T278_, h278_, X278_, e278_, W278_, st278_⟩ := stB X273_ hx hZ e273_ Ar277_ (j := (1 : Int32)) hin278_ (g := (mkF mM 115 #[.val (.int p1), .val (.int p2), .val (.int p3), .val (.int p4), .val (.int (8 : Int32)), .val (.ref b1_), .val (.ref b267_), .unset, .unset, .unset, .unset] [(.int x1), (.int (1 : Int32)), (.ref b267_)])) rfl rfl (Jvm.hb hby at_115)
    have V278_ : Arv Z h278_ b267_ k267_ .byte (8 : Int32) [(.int (nar .byte x0)), (.int (nar .byte x1)), (.int (0 : Int32)), (.int (0 : Int32)), (.int (0 : Int32)), (.int (0 : Int32)), (.int (0 : Int32)), (.int (0 : Int32))] (.int (0 : Int32)) := Arv.set Ar277_ qk277_ Sz277_ Nn277_ Hh277_ Gg277_ (fits_nar_byte _) W278_ 1 rfl (Nat.le_of_ble_eq_true rfl)
    have fc279_ := fc274_.other W278_ ne268_
    have K278_ := K273_.wr W278_ (Or.inr sz_b267_)
    have N278_ := Fr.snoc X278_ N273_ ge_b267_
    refine own_fin st278_ ?_
    show own_Fin pP eE below _ (T278_.setTop (mkF mM 116 #[.val (.int p1), .val (.int p2), .val (.int p3), .val (.int p4), .val (.int (8 : Int32)), .val (.ref b1_), .val (.ref b267_), .unset, .unset, .unset, .unset] []))
    refine own_fin (b := T278_.setTop (mkF mM 128 #[.val (.int p1), .val (.int p2), .val (.int p3), .val (.int p4), .val (.int (8 : Int32)), .val (.ref b1_), .val (.ref b267_), .unset, .unset, .unset, .unset] [(.int (2 : Int32)), (.ref b1_), (.int (2 : Int32)), (.ref b267_)])) (fun tT kK => ?_) ?_
    · show Steps pP.tables eE below (T278_.setTop (mkF mM 116 #[.val (.int p1), .val (.int p2), .val (.int p3), .val (.int p4), .val (.int (8 : Int32)), .val (.ref b1_), .val (.ref b267_), .unset, .unset, .unset, .unset] [])) tT
      refine XS.iload X278_.here hx rfl (Jvm.hb hby at_116) rfl ?_
      show Steps pP.tables eE below (T278_.setTop (mkF mM 118 #[.val (.int p1), .val (.int p2), .val (.int p3), .val (.int p4), .val (.int (8 : Int32)), .val (.ref b1_), .val (.ref b267_), .unset, .unset, .unset, .unset] [(.int (8 : Int32))])) tT
      refine XS.iconst X278_.here hx rfl (Jvm.hb hby at_118) ?_
      show Steps pP.tables eE below (T278_.setTop (mkF mM 119 #[.val (.int p1), .val (.int p2), .val (.int p3), .val (.int p4), .val (.int (8 : Int32)), .val (.ref b1_), .val (.ref b267_), .unset, .unset, .unset, .unset] [(.int (2 : Int32)), (.int (8 : Int32))])) tT
      refine XS.icmpNo X278_.here hx rfl (Jvm.hb hby at_119) rfl (tlt ((by decide) : (2 : Int32) < (8 : Int32))).2.2.2 ?_
      show Steps pP.tables eE below (T278_.setTop (mkF mM 122 #[.val (.int p1), .val (.int p2), .val (.int p3), .val (.int p4), .val (.int (8 : Int32)), .val (.ref b1_), .val (.ref b267_), .unset, .unset, .unset, .unset] [])) tT
      refine XS.aload X278_.here hx rfl (Jvm.hb hby at_122) rfl rfl ?_
      show Steps pP.tables eE below (T278_.setTop (mkF mM 124 #[.val (.int p1), .val (.int p2), .val (.int p3), .val (.int p4), .val (.int (8 : Int32)), .val (.ref b1_), .val (.ref b267_), .unset, .unset, .unset, .unset] [(.ref b267_)])) tT
      refine XS.iconst X278_.here hx rfl (Jvm.hb hby at_124) ?_
      show Steps pP.tables eE below (T278_.setTop (mkF mM 125 #[.val (.int p1), .val (.int p2), .val (.int p3), .val (.int p4), .val (.int (8 : Int32)), .val (.ref b1_), .val (.ref b267_), .unset, .unset, .unset, .unset] [(.int (2 : Int32)), (.ref b267_)])) tT
      refine XS.aload X278_.here hx rfl (Jvm.hb hby at_125) rfl rfl ?_
      show Steps pP.tables eE below (T278_.setTop (mkF mM 127 #[.val (.int p1), .val (.int p2), .val (.int p3), .val (.int p4), .val (.int (8 : Int32)), .val (.ref b1_), .val (.ref b267_), .unset, .unset, .unset, .unset] [(.ref b1_), (.int (2 : Int32)), (.ref b267_)])) tT
      refine XS.iconst X278_.here hx rfl (Jvm.hb hby at_127) ?_
      show Steps pP.tables eE below (T278_.setTop (mkF mM 128 #[.val (.int p1), .val (.int p2), .val (.int p3), .val (.int p4), .val (.int (8 : Int32)), .val (.ref b1_), .val (.ref b267_), .unset, .unset, .unset, .unset] [(.int (2 : Int32)), (.ref b1_), (.int (2 : Int32)), (.ref b267_)])) tT
      exact kK
    obtain ⟨cl280_, Ar280_, qk280_, Sz280_, Nn280_, Hh280_, Gg280_⟩ := id fc279_
    have hin281_ : ¬ ((2 : Int32) < 0 ∨ cl280_.slots.size ≤ ((2 : Int32)).toNatClampNeg) := inb_of Sz280_ ⟨by decide, by decide⟩
    have hat281_ : cl280_.slots[((2 : Int32)).toNatClampNeg]? = some (.int x2) := Hh280_.at hin281_ rfl
    refine own_fin (b := T278_.setTop (mkF mM 129 #[.val (.int p1), .val (.int p2), .val (.int p3), .val (.int p4), .val (.int (8 : Int32)), .val (.ref b1_), .val (.ref b267_), .unset, .unset, .unset, .unset] [(.int x2), (.int (2 : Int32)), (.ref b267_)])) (fun tT kK => ?_) ?_
    · show Steps pP.tables eE below (T278_.setTop (mkF mM 128 #[.val (.int p1), .val (.int p2), .val (.int p3), .val (.int p4), .val (.int (8 : Int32)), .val (.ref b1_), .val (.ref b267_), .unset, .unset, .unset, .unset] [(.int (2 : Int32)), (.ref b1_), (.int (2 : Int32)), (.ref b267_)])) tT
      refine X278_.baloadBytes hx (j := (2 : Int32)) (v := (.int x2)) (own_rw e278_ Ar280_.1) (State.isArrayOf_alike hZ.alike Ar280_.2.1) Ar280_.2.2 hin281_ hat281_ (g := (mkF mM 128 #[.val (.int p1), .val (.int p2), .val (.int p3), .val (.int p4), .val (.int (8 : Int32)), .val (.ref b1_), .val (.ref b267_), .unset, .unset, .unset, .unset] [(.int (2 : Int32)), (.ref b1_), (.int (2 : Int32)), (.ref b267_)])) rfl rfl (Jvm.hb hby at_128) _ ?_
      show Steps pP.tables eE below (T278_.setTop (mkF mM 129 #[.val (.int p1), .val (.int p2), .val (.int p3), .val (.int p4), .val (.int (8 : Int32)), .val (.ref b1_), .val (.ref b267_), .unset, .unset, .unset, .unset] [(.int x2), (.int (2 : Int32)), (.ref b267_)])) tT
      exact kK
    obtain ⟨cl282_, Ar282_, qk282_, Sz282_, Nn282_, Hh282_, Gg282_⟩ := id V278_
    have hin283_ : ¬ ((2 : Int32) < 0 ∨ cl282_.slots.size ≤ ((2 : Int32)).toNatClampNeg) := inb_of Sz282_ ⟨by decide, by decide⟩
    obtain ⟨T283_, h283_, X283_, e283_, W283_, st283_⟩ := stB X278_ hx hZ e278_ Ar282_ (j := (2 : Int32)) hin283_ (g := (mkF mM 129 #[.val (.int p1), .val (.int p2), .val (.int p3), .val (.int p4), .val (.int (8 : Int32)), .val (.ref b1_), .val (.ref b267_), .unset, .unset, .unset, .unset] [(.int x2), (.int (2 : Int32)), (.ref b267_)])) rfl rfl (Jvm.hb hby at_129)
    have V283_ : Arv Z h283_ b267_ k267_ .byte (8 : Int32) [(.int (nar .byte x0)), (.int (nar .byte x1)), (.int (nar .byte x2)), (.int (0 : Int32)), (.int (0 : Int32)), (.int (0 : Int32)), (.int (0 : Int32)), (.int (0 : Int32))] (.int (0 : Int32)) := Arv.set Ar282_ qk282_ Sz282_ Nn282_ Hh282_ Gg282_ (fits_nar_byte _) W283_ 2 rfl (Nat.le_of_ble_eq_true rfl)
    have fc284_ := fc279_.other W283_ ne268_
    have K283_ := K278_.wr W283_ (Or.inr sz_b267_)
    have N283_ := Fr.snoc X283_ N278_ ge_b267_
    refine own_fin st283_ ?_
    show own_Fin pP eE below _ (T283_.setTop (mkF mM 130 #[.val (.int p1), .val (.int p2), .val (.int p3), .val (.int p4), .val (.int (8 : Int32)), .val (.ref b1_), .val (.ref b267_), .unset, .unset, .unset, .unset] []))
    refine own_fin (b := T283_.setTop (mkF mM 142 #[.val (.int p1), .val (.int p2), .val (.int p3), .val (.int p4), .val (.int (8 : Int32)), .val (.ref b1_), .val (.ref b267_), .unset, .unset, .unset, .unset] [(.int (3 : Int32)), (.ref b1_), (.int (3 : Int32)), (.ref b267_)])) (fun tT kK => ?_) ?_
    · show Steps pP.tables eE below (T283_.setTop (mkF mM 130 #[.val (.int p1), .val (.int p2), .val (.int p3), .val (.int p4), .val (.int (8 : Int32)), .val (.ref b1_), .val (.ref b267_), .unset, .unset, .unset, .unset] [])) tT
      refine XS.iload X283_.here hx rfl (Jvm.hb hby at_130) rfl ?_
      show Steps pP.tables eE below (T283_.setTop (mkF mM 132 #[.val (.int p1), .val (.int p2), .val (.int p3), .val (.int p4), .val (.int (8 : Int32)), .val (.ref b1_), .val (.ref b267_), .unset, .unset, .unset, .unset] [(.int (8 : Int32))])) tT
      refine XS.iconst X283_.here hx rfl (Jvm.hb hby at_132) ?_
      show Steps pP.tables eE below (T283_.setTop (mkF mM 133 #[.val (.int p1), .val (.int p2), .val (.int p3), .val (.int p4), .val (.int (8 : Int32)), .val (.ref b1_), .val (.ref b267_), .unset, .unset, .unset, .unset] [(.int (3 : Int32)), (.int (8 : Int32))])) tT
      refine XS.icmpNo X283_.here hx rfl (Jvm.hb hby at_133) rfl (tlt ((by decide) : (3 : Int32) < (8 : Int32))).2.2.2 ?_
      show Steps pP.tables eE below (T283_.setTop (mkF mM 136 #[.val (.int p1), .val (.int p2), .val (.int p3), .val (.int p4), .val (.int (8 : Int32)), .val (.ref b1_), .val (.ref b267_), .unset, .unset, .unset, .unset] [])) tT
      refine XS.aload X283_.here hx rfl (Jvm.hb hby at_136) rfl rfl ?_
      show Steps pP.tables eE below (T283_.setTop (mkF mM 138 #[.val (.int p1), .val (.int p2), .val (.int p3), .val (.int p4), .val (.int (8 : Int32)), .val (.ref b1_), .val (.ref b267_), .unset, .unset, .unset, .unset] [(.ref b267_)])) tT
      refine XS.iconst X283_.here hx rfl (Jvm.hb hby at_138) ?_
      show Steps pP.tables eE below (T283_.setTop (mkF mM 139 #[.val (.int p1), .val (.int p2), .val (.int p3), .val (.int p4), .val (.int (8 : Int32)), .val (.ref b1_), .val (.ref b267_), .unset, .unset, .unset, .unset] [(.int (3 : Int32)), (.ref b267_)])) tT
      refine XS.aload X283_.here hx rfl (Jvm.hb hby at_139) rfl rfl ?_
      show Steps pP.tables eE below (T283_.setTop (mkF mM 141 #[.val (.int p1), .val (.int p2), .val (.int p3), .val (.int p4), .val (.int (8 : Int32)), .val (.ref b1_), .val (.ref b267_), .unset, .unset, .unset, .unset] [(.ref b1_), (.int (3 : Int32)), (.ref b267_)])) tT
      refine XS.iconst X283_.here hx rfl (Jvm.hb hby at_141) ?_
      show Steps pP.tables eE below (T283_.setTop (mkF mM 142 #[.val (.int p1), .val (.int p2), .val (.int p3), .val (.int p4), .val (.int (8 : Int32)), .val (.ref b1_), .val (.ref b267_), .unset, .unset, .unset, .unset] [(.int (3 : Int32)), (.ref b1_), (.int (3 : Int32)), (.ref b267_)])) tT
      exact kK
    obtain ⟨cl285_, Ar285_, qk285_, Sz285_, Nn285_, Hh285_, Gg285_⟩ := id fc284_
    have hin286_ : ¬ ((3 : Int32) < 0 ∨ cl285_.slots.size ≤ ((3 : Int32)).toNatClampNeg) := inb_of Sz285_ ⟨by decide, by decide⟩
    have hat286_ : cl285_.slots[((3 : Int32)).toNatClampNeg]? = some (.int x3) := Hh285_.at hin286_ rfl
    refine own_fin (b := T283_.setTop (mkF mM 143 #[.val (.int p1), .val (.int p2), .val (.int p3), .val (.int p4), .val (.int (8 : Int32)), .val (.ref b1_), .val (.ref b267_), .unset, .unset, .unset, .unset] [(.int x3), (.int (3 : Int32)), (.ref b267_)])) (fun tT kK => ?_) ?_
    · show Steps pP.tables eE below (T283_.setTop (mkF mM 142 #[.val (.int p1), .val (.int p2), .val (.int p3), .val (.int p4), .val (.int (8 : Int32)), .val (.ref b1_), .val (.ref b267_), .unset, .unset, .unset, .unset] [(.int (3 : Int32)), (.ref b1_), (.int (3 : Int32)), (.ref b267_)])) tT
      refine X283_.baloadBytes hx (j := (3 : Int32)) (v := (.int x3)) (own_rw e283_ Ar285_.1) (State.isArrayOf_alike hZ.alike Ar285_.2.1) Ar285_.2.2 hin286_ hat286_ (g := (mkF mM 142 #[.val (.int p1), .val (.int p2), .val (.int p3), .val (.int p4), .val (.int (8 : Int32)), .val (.ref b1_), .val (.ref b267_), .unset, .unset, .unset, .unset] [(.int (3 : Int32)), (.ref b1_), (.int (3 : Int32)), (.ref b267_)])) rfl rfl (Jvm.hb hby at_142) _ ?_
      show Steps pP.tables eE below (T283_.setTop (mkF mM 143 #[.val (.int p1), .val (.int p2), .val (.int p3), .val (.int p4), .val (.int (8 : Int32)), .val (.ref b1_), .val (.ref b267_), .unset, .unset, .unset, .unset] [(.int x3), (.int (3 : Int32)), (.ref b267_)])) tT
      exact kK
    obtain ⟨cl287_, Ar287_, qk287_, Sz287_, Nn287_, Hh287_, Gg287_⟩ := id V283_
    have hin288_ : ¬ ((3 : Int32) < 0 ∨ cl287_.slots.size ≤ ((3 : Int32)).toNatClampNeg) := inb_of Sz287_ ⟨by decide, by decide⟩
    obtain ⟨T288_, h288_, X288_, e288_, W288_, st288_⟩ := stB X283_ hx hZ e283_ Ar287_ (j := (3 : Int32)) hin288_ (g := (mkF mM 143 #[.val (.int p1), .val (.int p2), .val (.int p3), .val (.int p4), .val (.int (8 : Int32)), .val (.ref b1_), .val (.ref b267_), .unset, .unset, .unset, .unset] [(.int x3), (.int (3 : Int32)), (.ref b267_)])) rfl rfl (Jvm.hb hby at_143)
    have V288_ : Arv Z h288_ b267_ k267_ .byte (8 : Int32) [(.int (nar .byte x0)), (.int (nar .byte x1)), (.int (nar .byte x2)), (.int (nar .byte x3)), (.int (0 : Int32)), (.int (0 : Int32)), (.int (0 : Int32)), (.int (0 : Int32))] (.int (0 : Int32)) := Arv.set Ar287_ qk287_ Sz287_ Nn287_ Hh287_ Gg287_ (fits_nar_byte _) W288_ 3 rfl (Nat.le_of_ble_eq_true rfl)
    have fc289_ := fc284_.other W288_ ne268_
    have K288_ := K283_.wr W288_ (Or.inr sz_b267_)
    have N288_ := Fr.snoc X288_ N283_ ge_b267_
    refine own_fin st288_ ?_
    show own_Fin pP eE below _ (T288_.setTop (mkF mM 144 #[.val (.int p1), .val (.int p2), .val (.int p3), .val (.int p4), .val (.int (8 : Int32)), .val (.ref b1_), .val (.ref b267_), .unset, .unset, .unset, .unset] []))
    refine own_fin (b := T288_.setTop (mkF mM 156 #[.val (.int p1), .val (.int p2), .val (.int p3), .val (.int p4), .val (.int (8 : Int32)), .val (.ref b1_), .val (.ref b267_), .unset, .unset, .unset, .unset] [(.int (4 : Int32)), (.ref b1_), (.int (4 : Int32)), (.ref b267_)])) (fun tT kK => ?_) ?_
    · show Steps pP.tables eE below (T288_.setTop (mkF mM 144 #[.val (.int p1), .val (.int p2), .val (.int p3), .val (.int p4), .val (.int (8 : Int32)), .val (.ref b1_), .val (.ref b267_), .unset, .unset, .unset, .unset] [])) tT
      refine XS.iload X288_.here hx rfl (Jvm.hb hby at_144) rfl ?_
      show Steps pP.tables eE below (T288_.setTop (mkF mM 146 #[.val (.int p1), .val (.int p2), .val (.int p3), .val (.int p4), .val (.int (8 : Int32)), .val (.ref b1_), .val (.ref b267_), .unset, .unset, .unset, .unset] [(.int (8 : Int32))])) tT
      refine XS.iconst X288_.here hx rfl (Jvm.hb hby at_146) ?_
      show Steps pP.tables eE below (T288_.setTop (mkF mM 147 #[.val (.int p1), .val (.int p2), .val (.int p3), .val (.int p4), .val (.int (8 : Int32)), .val (.ref b1_), .val (.ref b267_), .unset, .unset, .unset, .unset] [(.int (4 : Int32)), (.int (8 : Int32))])) tT
      refine XS.icmpNo X288_.here hx rfl (Jvm.hb hby at_147) rfl (tlt ((by decide) : (4 : Int32) < (8 : Int32))).2.2.2 ?_
      show Steps pP.tables eE below (T288_.setTop (mkF mM 150 #[.val (.int p1), .val (.int p2), .val (.int p3), .val (.int p4), .val (.int (8 : Int32)), .val (.ref b1_), .val (.ref b267_), .unset, .unset, .unset, .unset] [])) tT
      refine XS.aload X288_.here hx rfl (Jvm.hb hby at_150) rfl rfl ?_
      show Steps pP.tables eE below (T288_.setTop (mkF mM 152 #[.val (.int p1), .val (.int p2), .val (.int p3), .val (.int p4), .val (.int (8 : Int32)), .val (.ref b1_), .val (.ref b267_), .unset, .unset, .unset, .unset] [(.ref b267_)])) tT
      refine XS.iconst X288_.here hx rfl (Jvm.hb hby at_152) ?_
      show Steps pP.tables eE below (T288_.setTop (mkF mM 153 #[.val (.int p1), .val (.int p2), .val (.int p3), .val (.int p4), .val (.int (8 : Int32)), .val (.ref b1_), .val (.ref b267_), .unset, .unset, .unset, .unset] [(.int (4 : Int32)), (.ref b267_)])) tT
      refine XS.aload X288_.here hx rfl (Jvm.hb hby at_153) rfl rfl ?_
      show Steps pP.tables eE below (T288_.setTop (mkF mM 155 #[.val (.int p1), .val (.int p2), .val (.int p3), .val (.int p4), .val (.int (8 : Int32)), .val (.ref b1_), .val (.ref b267_), .unset, .unset, .unset, .unset] [(.ref b1_), (.int (4 : Int32)), (.ref b267_)])) tT
      refine XS.iconst X288_.here hx rfl (Jvm.hb hby at_155) ?_
      show Steps pP.tables eE below (T288_.setTop (mkF mM 156 #[.val (.int p1), .val (.int p2), .val (.int p3), .val (.int p4), .val (.int (8 : Int32)), .val (.ref b1_), .val (.ref b267_), .unset, .unset, .unset, .unset] [(.int (4 : Int32)), (.ref b1_), (.int (4 : Int32)), (.ref b267_)])) tT
      exact kK
    obtain ⟨cl290_, Ar290_, qk290_, Sz290_, Nn290_, Hh290_, Gg290_⟩ := id fc289_
    have hin291_ : ¬ ((4 : Int32) < 0 ∨ cl290_.slots.size ≤ ((4 : Int32)).toNatClampNeg) := inb_of Sz290_ ⟨by decide, by decide⟩
    have hat291_ : cl290_.slots[((4 : Int32)).toNatClampNeg]? = some (.int x4) := Hh290_.at hin291_ rfl
    refine own_fin (b := T288_.setTop (mkF mM 157 #[.val (.int p1), .val (.int p2), .val (.int p3), .val (.int p4), .val (.int (8 : Int32)), .val (.ref b1_), .val (.ref b267_), .unset, .unset, .unset, .unset] [(.int x4), (.int (4 : Int32)), (.ref b267_)])) (fun tT kK => ?_) ?_
    · show Steps pP.tables eE below (T288_.setTop (mkF mM 156 #[.val (.int p1), .val (.int p2), .val (.int p3), .val (.int p4), .val (.int (8 : Int32)), .val (.ref b1_), .val (.ref b267_), .unset, .unset, .unset, .unset] [(.int (4 : Int32)), (.ref b1_), (.int (4 : Int32)), (.ref b267_)])) tT
      refine X288_.baloadBytes hx (j := (4 : Int32)) (v := (.int x4)) (own_rw e288_ Ar290_.1) (State.isArrayOf_alike hZ.alike Ar290_.2.1) Ar290_.2.2 hin291_ hat291_ (g := (mkF mM 156 #[.val (.int p1), .val (.int p2), .val (.int p3), .val (.int p4), .val (.int (8 : Int32)), .val (.ref b1_), .val (.ref b267_), .unset, .unset, .unset, .unset] [(.int (4 : Int32)), (.ref b1_), (.int (4 : Int32)), (.ref b267_)])) rfl rfl (Jvm.hb hby at_156) _ ?_
      show Steps pP.tables eE below (T288_.setTop (mkF mM 157 #[.val (.int p1), .val (.int p2), .val (.int p3), .val (.int p4), .val (.int (8 : Int32)), .val (.ref b1_), .val (.ref b267_), .unset, .unset, .unset, .unset] [(.int x4), (.int (4 : Int32)), (.ref b267_)])) tT
      exact kK
    obtain ⟨cl292_, Ar292_, qk292_, Sz292_, Nn292_, Hh292_, Gg292_⟩ := id V288_
    have hin293_ : ¬ ((4 : Int32) < 0 ∨ cl292_.slots.size ≤ ((4 : Int32)).toNatClampNeg) := inb_of Sz292_ ⟨by decide, by decide⟩
    obtain ⟨T293_, h293_, X293_, e293_, W293_, st293_⟩ := stB X288_ hx hZ e288_ Ar292_ (j := (4 : Int32)) hin293_ (g := (mkF mM 157 #[.val (.int p1), .val (.int p2), .val (.int p3), .val (.int p4), .val (.int (8 : Int32)), .val (.ref b1_), .val (.ref b267_), .unset, .unset, .unset, .unset] [(.int x4), (.int (4 : Int32)), (.ref b267_)])) rfl rfl (Jvm.hb hby at_157)
    have V293_ : Arv Z h293_ b267_ k267_ .byte (8 : Int32) [(.int (nar .byte x0)), (.int (nar .byte x1)), (.int (nar .byte x2)), (.int (nar .byte x3)), (.int (nar .byte x4)), (.int (0 : Int32)), (.int (0 : Int32)), (.int (0 : Int32))] (.int (0 : Int32)) := Arv.set Ar292_ qk292_ Sz292_ Nn292_ Hh292_ Gg292_ (fits_nar_byte _) W293_ 4 rfl (Nat.le_of_ble_eq_true rfl)
    have fc294_ := fc289_.other W293_ ne268_
    have K293_ := K288_.wr W293_ (Or.inr sz_b267_)
    have N293_ := Fr.snoc X293_ N288_ ge_b267_
    refine own_fin st293_ ?_
    show own_Fin pP eE below _ (T293_.setTop (mkF mM 158 #[.val (.int p1), .val (.int p2), .val (.int p3), .val (.int p4), .val (.int (8 : Int32)), .val (.ref b1_), .val (.ref b267_), .unset, .unset, .unset, .unset] []))
    refine own_fin (b := T293_.setTop (mkF mM 170 #[.val (.int p1), .val (.int p2), .val (.int p3), .val (.int p4), .val (.int (8 : Int32)), .val (.ref b1_), .val (.ref b267_), .unset, .unset, .unset, .unset] [(.int (5 : Int32)), (.ref b1_), (.int (5 : Int32)), (.ref b267_)])) (fun tT kK => ?_) ?_
    · show Steps pP.tables eE below (T293_.setTop (mkF mM 158 #[.val (.int p1), .val (.int p2), .val (.int p3), .val (.int p4), .val (.int (8 : Int32)), .val (.ref b1_), .val (.ref b267_), .unset, .unset, .unset, .unset] [])) tT
      refine XS.iload X293_.here hx rfl (Jvm.hb hby at_158) rfl ?_
      show Steps pP.tables eE below (T293_.setTop (mkF mM 160 #[.val (.int p1), .val (.int p2), .val (.int p3), .val (.int p4), .val (.int (8 : Int32)), .val (.ref b1_), .val (.ref b267_), .unset, .unset, .unset, .unset] [(.int (8 : Int32))])) tT
      refine XS.iconst X293_.here hx rfl (Jvm.hb hby at_160) ?_
      show Steps pP.tables eE below (T293_.setTop (mkF mM 161 #[.val (.int p1), .val (.int p2), .val (.int p3), .val (.int p4), .val (.int (8 : Int32)), .val (.ref b1_), .val (.ref b267_), .unset, .unset, .unset, .unset] [(.int (5 : Int32)), (.int (8 : Int32))])) tT
      refine XS.icmpNo X293_.here hx rfl (Jvm.hb hby at_161) rfl (tlt ((by decide) : (5 : Int32) < (8 : Int32))).2.2.2 ?_
      show Steps pP.tables eE below (T293_.setTop (mkF mM 164 #[.val (.int p1), .val (.int p2), .val (.int p3), .val (.int p4), .val (.int (8 : Int32)), .val (.ref b1_), .val (.ref b267_), .unset, .unset, .unset, .unset] [])) tT
      refine XS.aload X293_.here hx rfl (Jvm.hb hby at_164) rfl rfl ?_
      show Steps pP.tables eE below (T293_.setTop (mkF mM 166 #[.val (.int p1), .val (.int p2), .val (.int p3), .val (.int p4), .val (.int (8 : Int32)), .val (.ref b1_), .val (.ref b267_), .unset, .unset, .unset, .unset] [(.ref b267_)])) tT
      refine XS.iconst X293_.here hx rfl (Jvm.hb hby at_166) ?_
      show Steps pP.tables eE below (T293_.setTop (mkF mM 167 #[.val (.int p1), .val (.int p2), .val (.int p3), .val (.int p4), .val (.int (8 : Int32)), .val (.ref b1_), .val (.ref b267_), .unset, .unset, .unset, .unset] [(.int (5 : Int32)), (.ref b267_)])) tT
      refine XS.aload X293_.here hx rfl (Jvm.hb hby at_167) rfl rfl ?_
      show Steps pP.tables eE below (T293_.setTop (mkF mM 169 #[.val (.int p1), .val (.int p2), .val (.int p3), .val (.int p4), .val (.int (8 : Int32)), .val (.ref b1_), .val (.ref b267_), .unset, .unset, .unset, .unset] [(.ref b1_), (.int (5 : Int32)), (.ref b267_)])) tT
      refine XS.iconst X293_.here hx rfl (Jvm.hb hby at_169) ?_
      show Steps pP.tables eE below (T293_.setTop (mkF mM 170 #[.val (.int p1), .val (.int p2), .val (.int p3), .val (.int p4), .val (.int (8 : Int32)), .val (.ref b1_), .val (.ref b267_), .unset, .unset, .unset, .unset] [(.int (5 : Int32)), (.ref b1_), (.int (5 : Int32)), (.ref b267_)])) tT
      exact kK
    obtain ⟨cl295_, Ar295_, qk295_, Sz295_, Nn295_, Hh295_, Gg295_⟩ := id fc294_
    have hin296_ : ¬ ((5 : Int32) < 0 ∨ cl295_.slots.size ≤ ((5 : Int32)).toNatClampNeg) := inb_of Sz295_ ⟨by decide, by decide⟩
    have hat296_ : cl295_.slots[((5 : Int32)).toNatClampNeg]? = some (.int x5) := Hh295_.at hin296_ rfl
    refine own_fin (b := T293_.setTop (mkF mM 171 #[.val (.int p1), .val (.int p2), .val (.int p3), .val (.int p4), .val (.int (8 : Int32)), .val (.ref b1_), .val (.ref b267_), .unset, .unset, .unset, .unset] [(.int x5), (.int (5 : Int32)), (.ref b267_)])) (fun tT kK => ?_) ?_
    · show Steps pP.tables eE below (T293_.setTop (mkF mM 170 #[.val (.int p1), .val (.int p2), .val (.int p3), .val (.int p4), .val (.int (8 : Int32)), .val (.ref b1_), .val (.ref b267_), .unset, .unset, .unset, .unset] [(.int (5 : Int32)), (.ref b1_), (.int (5 : Int32)), (.ref b267_)])) tT
      refine X293_.baloadBytes hx (j := (5 : Int32)) (v := (.int x5)) (own_rw e293_ Ar295_.1) (State.isArrayOf_alike hZ.alike Ar295_.2.1) Ar295_.2.2 hin296_ hat296_ (g := (mkF mM 170 #[.val (.int p1), .val (.int p2), .val (.int p3), .val (.int p4), .val (.int (8 : Int32)), .val (.ref b1_), .val (.ref b267_), .unset, .unset, .unset, .unset] [(.int (5 : Int32)), (.ref b1_), (.int (5 : Int32)), (.ref b267_)])) rfl rfl (Jvm.hb hby at_170) _ ?_
      show Steps pP.tables eE below (T293_.setTop (mkF mM 171 #[.val (.int p1), .val (.int p2), .val (.int p3), .val (.int p4), .val (.int (8 : Int32)), .val (.ref b1_), .val (.ref b267_), .unset, .unset, .unset, .unset] [(.int x5), (.int (5 : Int32)), (.ref b267_)])) tT
      exact kK
    obtain ⟨cl297_, Ar297_, qk297_, Sz297_, Nn297_, Hh297_, Gg297_⟩ := id V293_
    have hin298_ : ¬ ((5 : Int32) < 0 ∨ cl297_.slots.size ≤ ((5 : Int32)).toNatClampNeg) := inb_of Sz297_ ⟨by decide, by decide⟩
    obtain ⟨T298_, h298_, X298_, e298_, W298_, st298_⟩ := stB X293_ hx hZ e293_ Ar297_ (j := (5 : Int32)) hin298_ (g := (mkF mM 171 #[.val (.int p1), .val (.int p2), .val (.int p3), .val (.int p4), .val (.int (8 : Int32)), .val (.ref b1_), .val (.ref b267_), .unset, .unset, .unset, .unset] [(.int x5), (.int (5 : Int32)), (.ref b267_)])) rfl rfl (Jvm.hb hby at_171)
    have V298_ : Arv Z h298_ b267_ k267_ .byte (8 : Int32) [(.int (nar .byte x0)), (.int (nar .byte x1)), (.int (nar .byte x2)), (.int (nar .byte x3)), (.int (nar .byte x4)), (.int (nar .byte x5)), (.int (0 : Int32)), (.int (0 : Int32))] (.int (0 : Int32)) := Arv.set Ar297_ qk297_ Sz297_ Nn297_ Hh297_ Gg297_ (fits_nar_byte _) W298_ 5 rfl (Nat.le_of_ble_eq_true rfl)
    have fc299_ := fc294_.other W298_ ne268_
    have K298_ := K293_.wr W298_ (Or.inr sz_b267_)
    have N298_ := Fr.snoc X298_ N293_ ge_b267_
    refine own_fin st298_ ?_
    show own_Fin pP eE below _ (T298_.setTop (mkF mM 172 #[.val (.int p1), .val (.int p2), .val (.int p3), .val (.int p4), .val (.int (8 : Int32)), .val (.ref b1_), .val (.ref b267_), .unset, .unset, .unset, .unset] []))
    refine own_fin (b := T298_.setTop (mkF mM 187 #[.val (.int p1), .val (.int p2), .val (.int p3), .val (.int p4), .val (.int (8 : Int32)), .val (.ref b1_), .val (.ref b267_), .unset, .unset, .unset, .unset] [(.int (6 : Int32)), (.ref b1_), (.int (6 : Int32)), (.ref b267_)])) (fun tT kK => ?_) ?_
    · show Steps pP.tables eE below (T298_.setTop (mkF mM 172 #[.val (.int p1), .val (.int p2), .val (.int p3), .val (.int p4), .val (.int (8 : Int32)), .val (.ref b1_), .val (.ref b267_), .unset, .unset, .unset, .unset] [])) tT
      refine XS.iload X298_.here hx rfl (Jvm.hb hby at_172) rfl ?_
      show Steps pP.tables eE below (T298_.setTop (mkF mM 174 #[.val (.int p1), .val (.int p2), .val (.int p3), .val (.int p4), .val (.int (8 : Int32)), .val (.ref b1_), .val (.ref b267_), .unset, .unset, .unset, .unset] [(.int (8 : Int32))])) tT
      refine XS.bipush X298_.here hx rfl (Jvm.hb hby at_174) ?_
      show Steps pP.tables eE below (T298_.setTop (mkF mM 176 #[.val (.int p1), .val (.int p2), .val (.int p3), .val (.int p4), .val (.int (8 : Int32)), .val (.ref b1_), .val (.ref b267_), .unset, .unset, .unset, .unset] [(.int (6 : Int32)), (.int (8 : Int32))])) tT
      refine XS.icmpNo X298_.here hx rfl (Jvm.hb hby at_176) rfl (tlt ((by decide) : (6 : Int32) < (8 : Int32))).2.2.2 ?_
      show Steps pP.tables eE below (T298_.setTop (mkF mM 179 #[.val (.int p1), .val (.int p2), .val (.int p3), .val (.int p4), .val (.int (8 : Int32)), .val (.ref b1_), .val (.ref b267_), .unset, .unset, .unset, .unset] [])) tT
      refine XS.aload X298_.here hx rfl (Jvm.hb hby at_179) rfl rfl ?_
      show Steps pP.tables eE below (T298_.setTop (mkF mM 181 #[.val (.int p1), .val (.int p2), .val (.int p3), .val (.int p4), .val (.int (8 : Int32)), .val (.ref b1_), .val (.ref b267_), .unset, .unset, .unset, .unset] [(.ref b267_)])) tT
      refine XS.bipush X298_.here hx rfl (Jvm.hb hby at_181) ?_
      show Steps pP.tables eE below (T298_.setTop (mkF mM 183 #[.val (.int p1), .val (.int p2), .val (.int p3), .val (.int p4), .val (.int (8 : Int32)), .val (.ref b1_), .val (.ref b267_), .unset, .unset, .unset, .unset] [(.int (6 : Int32)), (.ref b267_)])) tT
      refine XS.aload X298_.here hx rfl (Jvm.hb hby at_183) rfl rfl ?_
      show Steps pP.tables eE below (T298_.setTop (mkF mM 185 #[.val (.int p1), .val (.int p2), .val (.int p3), .val (.int p4), .val (.int (8 : Int32)), .val (.ref b1_), .val (.ref b267_), .unset, .unset, .unset, .unset] [(.ref b1_), (.int (6 : Int32)), (.ref b267_)])) tT
      refine XS.bipush X298_.here hx rfl (Jvm.hb hby at_185) ?_
      show Steps pP.tables eE below (T298_.setTop (mkF mM 187 #[.val (.int p1), .val (.int p2), .val (.int p3), .val (.int p4), .val (.int (8 : Int32)), .val (.ref b1_), .val (.ref b267_), .unset, .unset, .unset, .unset] [(.int (6 : Int32)), (.ref b1_), (.int (6 : Int32)), (.ref b267_)])) tT
      exact kK
    obtain ⟨cl300_, Ar300_, qk300_, Sz300_, Nn300_, Hh300_, Gg300_⟩ := id fc299_
    have hin301_ : ¬ ((6 : Int32) < 0 ∨ cl300_.slots.size ≤ ((6 : Int32)).toNatClampNeg) := inb_of Sz300_ ⟨by decide, by decide⟩
    have hat301_ : cl300_.slots[((6 : Int32)).toNatClampNeg]? = some (.int x6) := Hh300_.at hin301_ rfl
    refine own_fin (b := T298_.setTop (mkF mM 188 #[.val (.int p1), .val (.int p2), .val (.int p3), .val (.int p4), .val (.int (8 : Int32)), .val (.ref b1_), .val (.ref b267_), .unset, .unset, .unset, .unset] [(.int x6), (.int (6 : Int32)), (.ref b267_)])) (fun tT kK => ?_) ?_
    · show Steps pP.tables eE below (T298_.setTop (mkF mM 187 #[.val (.int p1), .val (.int p2), .val (.int p3), .val (.int p4), .val (.int (8 : Int32)), .val (.ref b1_), .val (.ref b267_), .unset, .unset, .unset, .unset] [(.int (6 : Int32)), (.ref b1_), (.int (6 : Int32)), (.ref b267_)])) tT
      refine X298_.baloadBytes hx (j := (6 : Int32)) (v := (.int x6)) (own_rw e298_ Ar300_.1) (State.isArrayOf_alike hZ.alike Ar300_.2.1) Ar300_.2.2 hin301_ hat301_ (g := (mkF mM 187 #[.val (.int p1), .val (.int p2), .val (.int p3), .val (.int p4), .val (.int (8 : Int32)), .val (.ref b1_), .val (.ref b267_), .unset, .unset, .unset, .unset] [(.int (6 : Int32)), (.ref b1_), (.int (6 : Int32)), (.ref b267_)])) rfl rfl (Jvm.hb hby at_187) _ ?_
      show Steps pP.tables eE below (T298_.setTop (mkF mM 188 #[.val (.int p1), .val (.int p2), .val (.int p3), .val (.int p4), .val (.int (8 : Int32)), .val (.ref b1_), .val (.ref b267_), .unset, .unset, .unset, .unset] [(.int x6), (.int (6 : Int32)), (.ref b267_)])) tT
      exact kK
    obtain ⟨cl302_, Ar302_, qk302_, Sz302_, Nn302_, Hh302_, Gg302_⟩ := id V298_
    have hin303_ : ¬ ((6 : Int32) < 0 ∨ cl302_.slots.size ≤ ((6 : Int32)).toNatClampNeg) := inb_of Sz302_ ⟨by decide, by decide⟩
    obtain ⟨T303_, h303_, X303_, e303_, W303_, st303_⟩ := stB X298_ hx hZ e298_ Ar302_ (j := (6 : Int32)) hin303_ (g := (mkF mM 188 #[.val (.int p1), .val (.int p2), .val (.int p3), .val (.int p4), .val (.int (8 : Int32)), .val (.ref b1_), .val (.ref b267_), .unset, .unset, .unset, .unset] [(.int x6), (.int (6 : Int32)), (.ref b267_)])) rfl rfl (Jvm.hb hby at_188)
    have V303_ : Arv Z h303_ b267_ k267_ .byte (8 : Int32) [(.int (nar .byte x0)), (.int (nar .byte x1)), (.int (nar .byte x2)), (.int (nar .byte x3)), (.int (nar .byte x4)), (.int (nar .byte x5)), (.int (nar .byte x6)), (.int (0 : Int32))] (.int (0 : Int32)) := Arv.set Ar302_ qk302_ Sz302_ Nn302_ Hh302_ Gg302_ (fits_nar_byte _) W303_ 6 rfl (Nat.le_of_ble_eq_true rfl)
    have fc304_ := fc299_.other W303_ ne268_
    have K303_ := K298_.wr W303_ (Or.inr sz_b267_)
    have N303_ := Fr.snoc X303_ N298_ ge_b267_
    refine own_fin st303_ ?_
    show own_Fin pP eE below _ (T303_.setTop (mkF mM 189 #[.val (.int p1), .val (.int p2), .val (.int p3), .val (.int p4), .val (.int (8 : Int32)), .val (.ref b1_), .val (.ref b267_), .unset, .unset, .unset, .unset] []))
    refine own_fin (b := T303_.setTop (mkF mM 204 #[.val (.int p1), .val (.int p2), .val (.int p3), .val (.int p4), .val (.int (8 : Int32)), .val (.ref b1_), .val (.ref b267_), .unset, .unset, .unset, .unset] [(.int (7 : Int32)), (.ref b1_), (.int (7 : Int32)), (.ref b267_)])) (fun tT kK => ?_) ?_
    · show Steps pP.tables eE below (T303_.setTop (mkF mM 189 #[.val (.int p1), .val (.int p2), .val (.int p3), .val (.int p4), .val (.int (8 : Int32)), .val (.ref b1_), .val (.ref b267_), .unset, .unset, .unset, .unset] [])) tT
      refine XS.iload X303_.here hx rfl (Jvm.hb hby at_189) rfl ?_
      show Steps pP.tables eE below (T303_.setTop (mkF mM 191 #[.val (.int p1), .val (.int p2), .val (.int p3), .val (.int p4), .val (.int (8 : Int32)), .val (.ref b1_), .val (.ref b267_), .unset, .unset, .unset, .unset] [(.int (8 : Int32))])) tT
      refine XS.bipush X303_.here hx rfl (Jvm.hb hby at_191) ?_
      show Steps pP.tables eE below (T303_.setTop (mkF mM 193 #[.val (.int p1), .val (.int p2), .val (.int p3), .val (.int p4), .val (.int (8 : Int32)), .val (.ref b1_), .val (.ref b267_), .unset, .unset, .unset, .unset] [(.int (7 : Int32)), (.int (8 : Int32))])) tT
      refine XS.icmpNo X303_.here hx rfl (Jvm.hb hby at_193) rfl (tlt ((by decide) : (7 : Int32) < (8 : Int32))).2.2.2 ?_
      show Steps pP.tables eE below (T303_.setTop (mkF mM 196 #[.val (.int p1), .val (.int p2), .val (.int p3), .val (.int p4), .val (.int (8 : Int32)), .val (.ref b1_), .val (.ref b267_), .unset, .unset, .unset, .unset] [])) tT
      refine XS.aload X303_.here hx rfl (Jvm.hb hby at_196) rfl rfl ?_
      show Steps pP.tables eE below (T303_.setTop (mkF mM 198 #[.val (.int p1), .val (.int p2), .val (.int p3), .val (.int p4), .val (.int (8 : Int32)), .val (.ref b1_), .val (.ref b267_), .unset, .unset, .unset, .unset] [(.ref b267_)])) tT
      refine XS.bipush X303_.here hx rfl (Jvm.hb hby at_198) ?_
      show Steps pP.tables eE below (T303_.setTop (mkF mM 200 #[.val (.int p1), .val (.int p2), .val (.int p3), .val (.int p4), .val (.int (8 : Int32)), .val (.ref b1_), .val (.ref b267_), .unset, .unset, .unset, .unset] [(.int (7 : Int32)), (.ref b267_)])) tT
      refine XS.aload X303_.here hx rfl (Jvm.hb hby at_200) rfl rfl ?_
      show Steps pP.tables eE below (T303_.setTop (mkF mM 202 #[.val (.int p1), .val (.int p2), .val (.int p3), .val (.int p4), .val (.int (8 : Int32)), .val (.ref b1_), .val (.ref b267_), .unset, .unset, .unset, .unset] [(.ref b1_), (.int (7 : Int32)), (.ref b267_)])) tT
      refine XS.bipush X303_.here hx rfl (Jvm.hb hby at_202) ?_
      show Steps pP.tables eE below (T303_.setTop (mkF mM 204 #[.val (.int p1), .val (.int p2), .val (.int p3), .val (.int p4), .val (.int (8 : Int32)), .val (.ref b1_), .val (.ref b267_), .unset, .unset, .unset, .unset] [(.int (7 : Int32)), (.ref b1_), (.int (7 : Int32)), (.ref b267_)])) tT
      exact kK
    obtain ⟨cl305_, Ar305_, qk305_, Sz305_, Nn305_, Hh305_, Gg305_⟩ := id fc304_
    have hin306_ : ¬ ((7 : Int32) < 0 ∨ cl305_.slots.size ≤ ((7 : Int32)).toNatClampNeg) := inb_of Sz305_ ⟨by decide, by decide⟩
    have hat306_ : cl305_.slots[((7 : Int32)).toNatClampNeg]? = some (.int x7) := Hh305_.at hin306_ rfl
    refine own_fin (b := T303_.setTop (mkF mM 205 #[.val (.int p1), .val (.int p2), .val (.int p3), .val (.int p4), .val (.int (8 : Int32)), .val (.ref b1_), .val (.ref b267_), .unset, .unset, .unset, .unset] [(.int x7), (.int (7 : Int32)), (.ref b267_)])) (fun tT kK => ?_) ?_
    · show Steps pP.tables eE below (T303_.setTop (mkF mM 204 #[.val (.int p1), .val (.int p2), .val (.int p3), .val (.int p4), .val (.int (8 : Int32)), .val (.ref b1_), .val (.ref b267_), .unset, .unset, .unset, .unset] [(.int (7 : Int32)), (.ref b1_), (.int (7 : Int32)), (.ref b267_)])) tT
      refine X303_.baloadBytes hx (j := (7 : Int32)) (v := (.int x7)) (own_rw e303_ Ar305_.1) (State.isArrayOf_alike hZ.alike Ar305_.2.1) Ar305_.2.2 hin306_ hat306_ (g := (mkF mM 204 #[.val (.int p1), .val (.int p2), .val (.int p3), .val (.int p4), .val (.int (8 : Int32)), .val (.ref b1_), .val (.ref b267_), .unset, .unset, .unset, .unset] [(.int (7 : Int32)), (.ref b1_), (.int (7 : Int32)), (.ref b267_)])) rfl rfl (Jvm.hb hby at_204) _ ?_
      show Steps pP.tables eE below (T303_.setTop (mkF mM 205 #[.val (.int p1), .val (.int p2), .val (.int p3), .val (.int p4), .val (.int (8 : Int32)), .val (.ref b1_), .val (.ref b267_), .unset, .unset, .unset, .unset] [(.int x7), (.int (7 : Int32)), (.ref b267_)])) tT
      exact kK
    obtain ⟨cl307_, Ar307_, qk307_, Sz307_, Nn307_, Hh307_, Gg307_⟩ := id V303_
    have hin308_ : ¬ ((7 : Int32) < 0 ∨ cl307_.slots.size ≤ ((7 : Int32)).toNatClampNeg) := inb_of Sz307_ ⟨by decide, by decide⟩
    obtain ⟨T308_, h308_, X308_, e308_, W308_, st308_⟩ := stB X303_ hx hZ e303_ Ar307_ (j := (7 : Int32)) hin308_ (g := (mkF mM 205 #[.val (.int p1), .val (.int p2), .val (.int p3), .val (.int p4), .val (.int (8 : Int32)), .val (.ref b1_), .val (.ref b267_), .unset, .unset, .unset, .unset] [(.int x7), (.int (7 : Int32)), (.ref b267_)])) rfl rfl (Jvm.hb hby at_205)
    have V308_ : Arv Z h308_ b267_ k267_ .byte (8 : Int32) [(.int (nar .byte x0)), (.int (nar .byte x1)), (.int (nar .byte x2)), (.int (nar .byte x3)), (.int (nar .byte x4)), (.int (nar .byte x5)), (.int (nar .byte x6)), (.int (nar .byte x7))] (.int (0 : Int32)) := Arv.set Ar307_ qk307_ Sz307_ Nn307_ Hh307_ Gg307_ (fits_nar_byte _) W308_ 7 rfl (Nat.le_of_ble_eq_true rfl)
    have fc309_ := fc304_.other W308_ ne268_
    have K308_ := K303_.wr W308_ (Or.inr sz_b267_)
    have N308_ := Fr.snoc X308_ N303_ ge_b267_
    refine own_fin st308_ ?_
    show own_Fin pP eE below _ (T308_.setTop (mkF mM 206 #[.val (.int p1), .val (.int p2), .val (.int p3), .val (.int p4), .val (.int (8 : Int32)), .val (.ref b1_), .val (.ref b267_), .unset, .unset, .unset, .unset] []))
    refine own_fin (b := T308_.setTop (mkF mM 213 #[.val (.int p1), .val (.int p2), .val (.int p3), .val (.int p4), .val (.int (8 : Int32)), .val (.ref b1_), .val (.ref b267_), .val (.int (p4 &&& (255 : Int32))), .unset, .unset, .unset] [])) (fun tT kK => ?_) ?_
    · show Steps pP.tables eE below (T308_.setTop (mkF mM 206 #[.val (.int p1), .val (.int p2), .val (.int p3), .val (.int p4), .val (.int (8 : Int32)), .val (.ref b1_), .val (.ref b267_), .unset, .unset, .unset, .unset] [])) tT
      refine XS.iloadN X308_.here hx rfl (Jvm.hb hby at_206) rfl ?_
      show Steps pP.tables eE below (T308_.setTop (mkF mM 207 #[.val (.int p1), .val (.int p2), .val (.int p3), .val (.int p4), .val (.int (8 : Int32)), .val (.ref b1_), .val (.ref b267_), .unset, .unset, .unset, .unset] [(.int p4)])) tT
      refine XS.sipush X308_.here hx rfl (Jvm.hb hby at_207) ?_
      show Steps pP.tables eE below (T308_.setTop (mkF mM 210 #[.val (.int p1), .val (.int p2), .val (.int p3), .val (.int p4), .val (.int (8 : Int32)), .val (.ref b1_), .val (.ref b267_), .unset, .unset, .unset, .unset] [(.int (255 : Int32)), (.int p4)])) tT
      refine XS.iand X308_.here hx rfl (Jvm.hb hby at_210) rfl ?_
      show Steps pP.tables eE below (T308_.setTop (mkF mM 211 #[.val (.int p1), .val (.int p2), .val (.int p3), .val (.int p4), .val (.int (8 : Int32)), .val (.ref b1_), .val (.ref b267_), .unset, .unset, .unset, .unset] [(.int (p4 &&& (255 : Int32)))])) tT
      refine XS.istore X308_.here hx rfl (Jvm.hb hby at_211) rfl (l' := #[.val (.int p1), .val (.int p2), .val (.int p3), .val (.int p4), .val (.int (8 : Int32)), .val (.ref b1_), .val (.ref b267_), .val (.int (p4 &&& (255 : Int32))), .unset, .unset, .unset]) rfl ?_
      show Steps pP.tables eE below (T308_.setTop (mkF mM 213 #[.val (.int p1), .val (.int p2), .val (.int p3), .val (.int p4), .val (.int (8 : Int32)), .val (.ref b1_), .val (.ref b267_), .val (.int (p4 &&& (255 : Int32))), .unset, .unset, .unset] [])) tT
      exact kK
    show own_Fin pP eE below _ (T308_.setTop (mkF mM 213 #[.val (.int p1), .val (.int p2), .val (.int p3), .val (.int p4), .val (.int (8 : Int32)), .val (.ref b1_), .val (.ref b267_), .val (.int (p4 &&& (255 : Int32))), .unset, .unset, .unset] []))
    generalize hvq : (p4 &&& (255 : Int32)) = vq
    show own_Fin pP eE below _ (T308_.setTop (mkF mM 213 #[.val (.int p1), .val (.int p2), .val (.int p3), .val (.int p4), .val (.int (8 : Int32)), .val (.ref b1_), .val (.ref b267_), .val (.int vq), .unset, .unset, .unset] []))
    have hq := own_m255 p4
    rw [hvq] at hq
    have Vp : Arv Z h308_ b267_ k267_ .byte (8 : Int32) (([x0, x1, x2, x3, x4, x5, x6, x7] : List Int32).map Value.int) (.int (0 : Int32)) := by have q := V308_; rw [hy0, hy1, hy2, hy3, hy4, hy5, hy6, hy7] at q; exact q
    refine own_fin (b := T308_.setTop (mkF mM 215 #[.val (.int p1), .val (.int p2), .val (.int p3), .val (.int p4), .val (.int (8 : Int32)), .val (.ref b1_), .val (.ref b267_), .val (.int vq), .unset, .unset, .unset] [(.ref b267_)])) (fun tT kK => ?_) ?_
    · show Steps pP.tables eE below (T308_.setTop (mkF mM 213 #[.val (.int p1), .val (.int p2), .val (.int p3), .val (.int p4), .val (.int (8 : Int32)), .val (.ref b1_), .val (.ref b267_), .val (.int vq), .unset, .unset, .unset] [])) tT
      refine XS.aload X308_.here hx rfl (Jvm.hb hby at_213) rfl rfl ?_
      show Steps pP.tables eE below (T308_.setTop (mkF mM 215 #[.val (.int p1), .val (.int p2), .val (.int p3), .val (.int p4), .val (.int (8 : Int32)), .val (.ref b1_), .val (.ref b267_), .val (.int vq), .unset, .unset, .unset] [(.ref b267_)])) tT
      exact kK
    obtain ⟨_, _, ⟨T310_, L310_, k310_, n310_⟩, -, X310_, ⟨Lc310_, hQ310_, l310_, y310_, z310_⟩, st310_⟩ := Jvm.LawKit.callS X308_ hx (y := (⟨"com/example/needlework/needlework/BoyerMoore", "rightmost", "([B)[I"⟩ : MethodName)) hown (mvT hZ (hw _ (List.mem_of_getElem? (i := 1) rfl))) (mvT hZ (hw _ (List.mem_of_getElem? (i := 2) rfl))) (mvT hZ (hw _ (List.mem_of_getElem? (i := 3) rfl))) (mvT hZ (hw _ (List.mem_of_getElem? (i := 4) rfl))) (by decide) (backOf (W := 0) (rm_right lL Z a0 hw [] b267_ k267_ (8 : Int32) ([x0, x1, x2, x3, x4, x5, x6, x7] : List Int32) h308_ n0 (Nat.le_trans Z0 K308_.1) Vp) hZ (hw _ (List.mem_of_getElem? (i := 4) rfl)) (hw _ (List.mem_of_getElem? (i := 3) rfl)) (by decide) (by decide)) (g := (mkF mM 215 #[.val (.int p1), .val (.int p2), .val (.int p3), .val (.int p4), .val (.int (8 : Int32)), .val (.ref b1_), .val (.ref b267_), .val (.int vq), .unset, .unset, .unset] [(.ref b267_)])) rfl (by rw [hml]; rfl) (argsL := [(.ref b267_)]) (rest := []) (lenOf own_pd1 rfl) rfl (by show 2 * 0 + _ ≤ _; exact Nat.le_of_eq rfl) (Jvm.hb hby at_215) (fun _ _ => ⟨rfl, e308_, (by decide : 2 + 1 ≤ _), (by decide : 16 + 256 ≤ _)⟩)
    dsimp only [Pt.U, Pt.locs, Pt.cells, Pt.slots] at X310_ l310_ y310_ z310_ st310_ hQ310_
    subst l310_ y310_ z310_
    obtain ⟨b_310_, rfl, N310_q, p310__0, p310__1, p310__2⟩ := hQ310_
    have N310_ := Fr.app N308_ N310_q
    have sz_b_310_ : h0.size ≤ b_310_ := Nat.le_trans K308_.1 p310__1
    have ge_b_310_ : n0 ≤ b_310_ := Nat.le_trans Z0 sz_b_310_
    have ne311_ : b1_ ≠ b_310_ := Nat.ne_of_lt (Nat.lt_of_lt_of_le fc309_.lt p310__1)
    have ne312_ : b267_ ≠ b_310_ := Nat.ne_of_lt (Nat.lt_of_lt_of_le V308_.lt p310__1)
    have fc313_ := fc309_.keep p310__0 nin0
    have fc314_ := V308_.keep p310__0 nin0
    have K310_ := K308_.trans p310__0 all0
    refine own_fin (fun tT kK => st310_ tT kK) ?_
    show own_Fin pP eE below _ (T310_.setTop (mkF mM 218 #[.val (.int p1), .val (.int p2), .val (.int p3), .val (.int p4), .val (.int (8 : Int32)), .val (.ref b1_), .val (.ref b267_), .val (.int vq), .unset, .unset, .unset] [(.ref b_310_)]))
    refine own_fin (b := T310_.setTop (mkF mM 227 #[.val (.int p1), .val (.int p2), .val (.int p3), .val (.int p4), .val (.int (8 : Int32)), .val (.ref b1_), .val (.ref b267_), .val (.int vq), .val (.ref b_310_), .unset, .unset] [(.ref b_310_)])) (fun tT kK => ?_) ?_
    · show Steps pP.tables eE below (T310_.setTop (mkF mM 218 #[.val (.int p1), .val (.int p2), .val (.int p3), .val (.int p4), .val (.int (8 : Int32)), .val (.ref b1_), .val (.ref b267_), .val (.int vq), .unset, .unset, .unset] [(.ref b_310_)])) tT
      refine XS.astore X310_.here hx rfl (Jvm.hb hby at_218) rfl rfl (l' := #[.val (.int p1), .val (.int p2), .val (.int p3), .val (.int p4), .val (.int (8 : Int32)), .val (.ref b1_), .val (.ref b267_), .val (.int vq), .val (.ref b_310_), .unset, .unset]) rfl ?_
      show Steps pP.tables eE below (T310_.setTop (mkF mM 220 #[.val (.int p1), .val (.int p2), .val (.int p3), .val (.int p4), .val (.int (8 : Int32)), .val (.ref b1_), .val (.ref b267_), .val (.int vq), .val (.ref b_310_), .unset, .unset] [])) tT
      refine XS.aload X310_.here hx rfl (Jvm.hb hby at_220) rfl rfl ?_
      show Steps pP.tables eE below (T310_.setTop (mkF mM 222 #[.val (.int p1), .val (.int p2), .val (.int p3), .val (.int p4), .val (.int (8 : Int32)), .val (.ref b1_), .val (.ref b267_), .val (.int vq), .val (.ref b_310_), .unset, .unset] [(.ref b_310_)])) tT
      refine XS.ifnullNo X310_.here hx rfl (Jvm.hb hby at_222) rfl ?_
      show Steps pP.tables eE below (T310_.setTop (mkF mM 225 #[.val (.int p1), .val (.int p2), .val (.int p3), .val (.int p4), .val (.int (8 : Int32)), .val (.ref b1_), .val (.ref b267_), .val (.int vq), .val (.ref b_310_), .unset, .unset] [])) tT
      refine XS.aload X310_.here hx rfl (Jvm.hb hby at_225) rfl rfl ?_
      show Steps pP.tables eE below (T310_.setTop (mkF mM 227 #[.val (.int p1), .val (.int p2), .val (.int p3), .val (.int p4), .val (.int (8 : Int32)), .val (.ref b1_), .val (.ref b267_), .val (.int vq), .val (.ref b_310_), .unset, .unset] [(.ref b_310_)])) tT
      exact kK
    obtain ⟨cl315_, Ar315_, Sz315_, Nn315_, -⟩ := id p310__2
    refine own_fin (b := T310_.setTop (mkF mM 240 #[.val (.int p1), .val (.int p2), .val (.int p3), .val (.int p4), .val (.int (8 : Int32)), .val (.ref b1_), .val (.ref b267_), .val (.int vq), .val (.ref b_310_), .unset, .unset] [(.int vq), (.ref b_310_)])) (fun tT kK => ?_) ?_
    · show Steps pP.tables eE below (T310_.setTop (mkF mM 227 #[.val (.int p1), .val (.int p2), .val (.int p3), .val (.int p4), .val (.int (8 : Int32)), .val (.ref b1_), .val (.ref b267_), .val (.int vq), .val (.ref b_310_), .unset, .unset] [(.ref b_310_)])) tT
      refine X310_.arraylength hx (own_rw rfl Ar315_.1) (State.isArrayOf_alike hZ.alike Ar315_.2.1) (g := (mkF mM 227 #[.val (.int p1), .val (.int p2), .val (.int p3), .val (.int p4), .val (.int (8 : Int32)), .val (.ref b1_), .val (.ref b267_), .val (.int vq), .val (.ref b_310_), .unset, .unset] [(.ref b_310_)])) rfl rfl (Jvm.hb hby at_227) _ ?_
      rw [len_of Sz315_ Nn315_]
      show Steps pP.tables eE below (T310_.setTop (mkF mM 228 #[.val (.int p1), .val (.int p2), .val (.int p3), .val (.int p4), .val (.int (8 : Int32)), .val (.ref b1_), .val (.ref b267_), .val (.int vq), .val (.ref b_310_), .unset, .unset] [(.int (256 : Int32))])) tT
      refine XS.sipush X310_.here hx rfl (Jvm.hb hby at_228) ?_
      show Steps pP.tables eE below (T310_.setTop (mkF mM 231 #[.val (.int p1), .val (.int p2), .val (.int p3), .val (.int p4), .val (.int (8 : Int32)), .val (.ref b1_), .val (.ref b267_), .val (.int vq), .val (.ref b_310_), .unset, .unset] [(.int (256 : Int32)), (.int (256 : Int32))])) tT
      refine XS.icmpYes X310_.here hx rfl (pc0 := 231) (pc' := 236) rfl (Jvm.hb hby at_231) rfl (teq ((by decide) : (256 : Int32) = (256 : Int32))).1 (by decide) (by decide) ?_
      show Steps pP.tables eE below (T310_.setTop (mkF mM 236 #[.val (.int p1), .val (.int p2), .val (.int p3), .val (.int p4), .val (.int (8 : Int32)), .val (.ref b1_), .val (.ref b267_), .val (.int vq), .val (.ref b_310_), .unset, .unset] [])) tT
      refine XS.aload X310_.here hx rfl (Jvm.hb hby at_236) rfl rfl ?_
      show Steps pP.tables eE below (T310_.setTop (mkF mM 238 #[.val (.int p1), .val (.int p2), .val (.int p3), .val (.int p4), .val (.int (8 : Int32)), .val (.ref b1_), .val (.ref b267_), .val (.int vq), .val (.ref b_310_), .unset, .unset] [(.ref b_310_)])) tT
      refine XS.iload X310_.here hx rfl (Jvm.hb hby at_238) rfl ?_
      show Steps pP.tables eE below (T310_.setTop (mkF mM 240 #[.val (.int p1), .val (.int p2), .val (.int p3), .val (.int p4), .val (.int (8 : Int32)), .val (.ref b1_), .val (.ref b267_), .val (.int vq), .val (.ref b_310_), .unset, .unset] [(.int vq), (.ref b_310_)])) tT
      exact kK
    obtain ⟨cl316_, Ar316_, Sz316_, Nn316_, Hh316_⟩ := id p310__2
    have hin316_ : ¬ (vq < 0 ∨ cl316_.slots.size ≤ (vq).toNatClampNeg) := inb_of Sz316_ hq
    have hat316_ : cl316_.slots[(vq).toNatClampNeg]? = some (.int ((own_ft ([x0, x1, x2, x3, x4, x5, x6, x7] : List Int32) (8 : Int32).toNatClampNeg) vq)) := Hh316_ _ hin316_
    refine own_fin (b := T310_.setTop (mkF mM 247 #[.val (.int p1), .val (.int p2), .val (.int p3), .val (.int p4), .val (.int (8 : Int32)), .val (.ref b1_), .val (.ref b267_), .val (.int vq), .val (.ref b_310_), .unset, .unset] [(.int vq), (.int (8 : Int32)), (.ref b1_), (.int ((own_ft ([x0, x1, x2, x3, x4, x5, x6, x7] : List Int32) (8 : Int32).toNatClampNeg) vq))])) (fun tT kK => ?_) ?_
    · show Steps pP.tables eE below (T310_.setTop (mkF mM 240 #[.val (.int p1), .val (.int p2), .val (.int p3), .val (.int p4), .val (.int (8 : Int32)), .val (.ref b1_), .val (.ref b267_), .val (.int vq), .val (.ref b_310_), .unset, .unset] [(.int vq), (.ref b_310_)])) tT
      refine X310_.iaload hx (j := vq) (v := (.int ((own_ft ([x0, x1, x2, x3, x4, x5, x6, x7] : List Int32) (8 : Int32).toNatClampNeg) vq))) (own_rw rfl Ar316_.1) (State.isArrayOf_alike hZ.alike Ar316_.2.1) Ar316_.2.2 hin316_ hat316_ (g := (mkF mM 240 #[.val (.int p1), .val (.int p2), .val (.int p3), .val (.int p4), .val (.int (8 : Int32)), .val (.ref b1_), .val (.ref b267_), .val (.int vq), .val (.ref b_310_), .unset, .unset] [(.int vq), (.ref b_310_)])) rfl rfl (Jvm.hb hby at_240) _ ?_
      show Steps pP.tables eE below (T310_.setTop (mkF mM 241 #[.val (.int p1), .val (.int p2), .val (.int p3), .val (.int p4), .val (.int (8 : Int32)), .val (.ref b1_), .val (.ref b267_), .val (.int vq), .val (.ref b_310_), .unset, .unset] [(.int ((own_ft ([x0, x1, x2, x3, x4, x5, x6, x7] : List Int32) (8 : Int32).toNatClampNeg) vq))])) tT
      refine XS.aload X310_.here hx rfl (Jvm.hb hby at_241) rfl rfl ?_
      show Steps pP.tables eE below (T310_.setTop (mkF mM 243 #[.val (.int p1), .val (.int p2), .val (.int p3), .val (.int p4), .val (.int (8 : Int32)), .val (.ref b1_), .val (.ref b267_), .val (.int vq), .val (.ref b_310_), .unset, .unset] [(.ref b1_), (.int ((own_ft ([x0, x1, x2, x3, x4, x5, x6, x7] : List Int32) (8 : Int32).toNatClampNeg) vq))])) tT
      refine XS.iload X310_.here hx rfl (Jvm.hb hby at_243) rfl ?_
      show Steps pP.tables eE below (T310_.setTop (mkF mM 245 #[.val (.int p1), .val (.int p2), .val (.int p3), .val (.int p4), .val (.int (8 : Int32)), .val (.ref b1_), .val (.ref b267_), .val (.int vq), .val (.ref b_310_), .unset, .unset] [(.int (8 : Int32)), (.ref b1_), (.int ((own_ft ([x0, x1, x2, x3, x4, x5, x6, x7] : List Int32) (8 : Int32).toNatClampNeg) vq))])) tT
      refine XS.iload X310_.here hx rfl (Jvm.hb hby at_245) rfl ?_
      show Steps pP.tables eE below (T310_.setTop (mkF mM 247 #[.val (.int p1), .val (.int p2), .val (.int p3), .val (.int p4), .val (.int (8 : Int32)), .val (.ref b1_), .val (.ref b267_), .val (.int vq), .val (.ref b_310_), .unset, .unset] [(.int vq), (.int (8 : Int32)), (.ref b1_), (.int ((own_ft ([x0, x1, x2, x3, x4, x5, x6, x7] : List Int32) (8 : Int32).toNatClampNeg) vq))])) tT
      exact kK
    obtain ⟨_, _, ⟨T317_, L317_, k317_, n317_⟩, -, X317_, ⟨Lc317_, hQ317_, l317_, y317_, z317_⟩, st317_⟩ := Jvm.LawKit.callS X310_ hx (y := (⟨"com/example/needlework/needlework/BoyerMooreRightmostPinLaw", "ref", "([BII)I"⟩ : MethodName)) hown (mvT hZ (hw _ (List.mem_of_getElem? (i := 10) rfl))) (mvT hZ (hw _ (List.mem_of_getElem? (i := 11) rfl))) (mvT hZ (hw _ (List.mem_of_getElem? (i := 12) rfl))) (mvT hZ (hw _ (List.mem_of_getElem? (i := 13) rfl))) (by decide) (backOf (W := 1) (rm_ref lL Z a0 hw [] b1_ k1_ (8 : Int32) vq x0 x1 x2 x3 x4 x5 x6 x7 T310_.heap n0 (Nat.le_trans Z0 K310_.1) fc313_) hZ (hw _ (List.mem_of_getElem? (i := 13) rfl)) (hw _ (List.mem_of_getElem? (i := 12) rfl)) (by decide) (by decide)) (g := (mkF mM 247 #[.val (.int p1), .val (.int p2), .val (.int p3), .val (.int p4), .val (.int (8 : Int32)), .val (.ref b1_), .val (.ref b267_), .val (.int vq), .val (.ref b_310_), .unset, .unset] [(.int vq), (.int (8 : Int32)), (.ref b1_), (.int ((own_ft ([x0, x1, x2, x3, x4, x5, x6, x7] : List Int32) (8 : Int32).toNatClampNeg) vq))])) rfl (by rw [hml]; rfl) (argsL := [(.ref b1_), (.int (8 : Int32)), (.int vq)]) (rest := [(.int ((own_ft ([x0, x1, x2, x3, x4, x5, x6, x7] : List Int32) (8 : Int32).toNatClampNeg) vq))]) (lenOf own_pd2 rfl) rfl (by show 2 * 0 + _ ≤ _; exact Nat.le_of_eq rfl) (Jvm.hb hby at_247) (fun _ _ => ⟨rfl, rfl, (by decide : 3 + 0 ≤ _), (by decide : 272 + 0 ≤ _)⟩)
    dsimp only [Pt.U, Pt.locs, Pt.cells, Pt.slots] at X317_ l317_ y317_ z317_ st317_ hQ317_
    subst l317_ y317_ z317_
    obtain ⟨rfl, N317_q, p317__0⟩ := hQ317_
    have N317_ := Fr.app N310_ N317_q
    refine own_fin (fun tT kK => st317_ tT kK) ?_
    show own_Fin pP eE below _ (T317_.setTop (mkF mM 250 #[.val (.int p1), .val (.int p2), .val (.int p3), .val (.int p4), .val (.int (8 : Int32)), .val (.ref b1_), .val (.ref b267_), .val (.int vq), .val (.ref b_310_), .unset, .unset] [(.int (own_ref (8 : Int32) vq x0 x1 x2 x3 x4 x5 x6 x7)), (.int ((own_ft ([x0, x1, x2, x3, x4, x5, x6, x7] : List Int32) (8 : Int32).toNatClampNeg) vq))]))
    refine own_fin (b := T317_.setTop (mkF mM 271 #[.val (.int p1), .val (.int p2), .val (.int p3), .val (.int p4), .val (.int (8 : Int32)), .val (.ref b1_), .val (.ref b267_), .val (.int vq), .val (.ref b_310_), .val (.int (1 : Int32)), .unset] [(.int (7 : Int32)), (.ref b1_)])) (fun tT kK => ?_) ?_
    · show Steps pP.tables eE below (T317_.setTop (mkF mM 250 #[.val (.int p1), .val (.int p2), .val (.int p3), .val (.int p4), .val (.int (8 : Int32)), .val (.ref b1_), .val (.ref b267_), .val (.int vq), .val (.ref b_310_), .unset, .unset] [(.int (own_ref (8 : Int32) vq x0 x1 x2 x3 x4 x5 x6 x7)), (.int ((own_ft ([x0, x1, x2, x3, x4, x5, x6, x7] : List Int32) (8 : Int32).toNatClampNeg) vq))])) tT
      refine XS.icmpNo X317_.here hx rfl (Jvm.hb hby at_250) rfl (teq (own_e8 vq x0 x1 x2 x3 x4 x5 x6 x7 : ((own_ft ([x0, x1, x2, x3, x4, x5, x6, x7] : List Int32) (8 : Int32).toNatClampNeg) vq) = (own_ref (8 : Int32) vq x0 x1 x2 x3 x4 x5 x6 x7))).2 ?_
      show Steps pP.tables eE below (T317_.setTop (mkF mM 253 #[.val (.int p1), .val (.int p2), .val (.int p3), .val (.int p4), .val (.int (8 : Int32)), .val (.ref b1_), .val (.ref b267_), .val (.int vq), .val (.ref b_310_), .unset, .unset] [])) tT
      refine XS.iconst X317_.here hx rfl (Jvm.hb hby at_253) ?_
      show Steps pP.tables eE below (T317_.setTop (mkF mM 254 #[.val (.int p1), .val (.int p2), .val (.int p3), .val (.int p4), .val (.int (8 : Int32)), .val (.ref b1_), .val (.ref b267_), .val (.int vq), .val (.ref b_310_), .unset, .unset] [(.int (1 : Int32))])) tT
      refine XS.goto X317_.here hx rfl (pc0 := 254) (pc' := 258) rfl (Jvm.hb hby at_254) (by decide) (by decide) ?_
      show Steps pP.tables eE below (T317_.setTop (mkF mM 258 #[.val (.int p1), .val (.int p2), .val (.int p3), .val (.int p4), .val (.int (8 : Int32)), .val (.ref b1_), .val (.ref b267_), .val (.int vq), .val (.ref b_310_), .unset, .unset] [(.int (1 : Int32))])) tT
      refine XS.istore X317_.here hx rfl (Jvm.hb hby at_258) rfl (l' := #[.val (.int p1), .val (.int p2), .val (.int p3), .val (.int p4), .val (.int (8 : Int32)), .val (.ref b1_), .val (.ref b267_), .val (.int vq), .val (.ref b_310_), .val (.int (1 : Int32)), .unset]) rfl ?_
      show Steps pP.tables eE below (T317_.setTop (mkF mM 260 #[.val (.int p1), .val (.int p2), .val (.int p3), .val (.int p4), .val (.int (8 : Int32)), .val (.ref b1_), .val (.ref b267_), .val (.int vq), .val (.ref b_310_), .val (.int (1 : Int32)), .unset] [])) tT
      refine XS.iload X317_.here hx rfl (Jvm.hb hby at_260) rfl ?_
      show Steps pP.tables eE below (T317_.setTop (mkF mM 262 #[.val (.int p1), .val (.int p2), .val (.int p3), .val (.int p4), .val (.int (8 : Int32)), .val (.ref b1_), .val (.ref b267_), .val (.int vq), .val (.ref b_310_), .val (.int (1 : Int32)), .unset] [(.int (8 : Int32))])) tT
      refine XS.ifNo X317_.here hx rfl (Jvm.hb hby at_262) rfl ((if0 _ _).trans (tlt ((by decide) : (0 : Int32) < (8 : Int32))).2.2.2) ?_
      show Steps pP.tables eE below (T317_.setTop (mkF mM 265 #[.val (.int p1), .val (.int p2), .val (.int p3), .val (.int p4), .val (.int (8 : Int32)), .val (.ref b1_), .val (.ref b267_), .val (.int vq), .val (.ref b_310_), .val (.int (1 : Int32)), .unset] [])) tT
      refine XS.aload X317_.here hx rfl (Jvm.hb hby at_265) rfl rfl ?_
      show Steps pP.tables eE below (T317_.setTop (mkF mM 267 #[.val (.int p1), .val (.int p2), .val (.int p3), .val (.int p4), .val (.int (8 : Int32)), .val (.ref b1_), .val (.ref b267_), .val (.int vq), .val (.ref b_310_), .val (.int (1 : Int32)), .unset] [(.ref b1_)])) tT
      refine XS.iload X317_.here hx rfl (Jvm.hb hby at_267) rfl ?_
      show Steps pP.tables eE below (T317_.setTop (mkF mM 269 #[.val (.int p1), .val (.int p2), .val (.int p3), .val (.int p4), .val (.int (8 : Int32)), .val (.ref b1_), .val (.ref b267_), .val (.int vq), .val (.ref b_310_), .val (.int (1 : Int32)), .unset] [(.int (8 : Int32)), (.ref b1_)])) tT
      refine XS.iconst X317_.here hx rfl (Jvm.hb hby at_269) ?_
      show Steps pP.tables eE below (T317_.setTop (mkF mM 270 #[.val (.int p1), .val (.int p2), .val (.int p3), .val (.int p4), .val (.int (8 : Int32)), .val (.ref b1_), .val (.ref b267_), .val (.int vq), .val (.ref b_310_), .val (.int (1 : Int32)), .unset] [(.int (1 : Int32)), (.int (8 : Int32)), (.ref b1_)])) tT
      refine XS.isub X317_.here hx rfl (Jvm.hb hby at_270) rfl ?_
      show Steps pP.tables eE below (T317_.setTop (mkF mM 271 #[.val (.int p1), .val (.int p2), .val (.int p3), .val (.int p4), .val (.int (8 : Int32)), .val (.ref b1_), .val (.ref b267_), .val (.int vq), .val (.ref b_310_), .val (.int (1 : Int32)), .unset] [(.int (7 : Int32)), (.ref b1_)])) tT
      exact kK
    obtain ⟨cl318_, Ar318_, qk318_, Sz318_, Nn318_, Hh318_, Gg318_⟩ := id fc313_
    have hin319_ : ¬ ((7 : Int32) < 0 ∨ cl318_.slots.size ≤ ((7 : Int32)).toNatClampNeg) := inb_of Sz318_ ⟨by decide, by decide⟩
    have hat319_ : cl318_.slots[((7 : Int32)).toNatClampNeg]? = some (.int x7) := Hh318_.at hin319_ rfl
    refine own_fin (b := T317_.setTop (mkF mM 287 #[.val (.int p1), .val (.int p2), .val (.int p3), .val (.int p4), .val (.int (8 : Int32)), .val (.ref b1_), .val (.ref b267_), .val (.int vq), .val (.ref b_310_), .val (.int (1 : Int32)), .val (.int (x7 &&& (255 : Int32)))] [(.int (x7 &&& (255 : Int32))), (.ref b_310_)])) (fun tT kK => ?_) ?_
    · show Steps pP.tables eE below (T317_.setTop (mkF mM 271 #[.val (.int p1), .val (.int p2), .val (.int p3), .val (.int p4), .val (.int (8 : Int32)), .val (.ref b1_), .val (.ref b267_), .val (.int vq), .val (.ref b_310_), .val (.int (1 : Int32)), .unset] [(.int (7 : Int32)), (.ref b1_)])) tT
      refine X317_.baloadBytes hx (j := (7 : Int32)) (v := (.int x7)) (own_rw p317__0 Ar318_.1) (State.isArrayOf_alike hZ.alike Ar318_.2.1) Ar318_.2.2 hin319_ hat319_ (g := (mkF mM 271 #[.val (.int p1), .val (.int p2), .val (.int p3), .val (.int p4), .val (.int (8 : Int32)), .val (.ref b1_), .val (.ref b267_), .val (.int vq), .val (.ref b_310_), .val (.int (1 : Int32)), .unset] [(.int (7 : Int32)), (.ref b1_)])) rfl rfl (Jvm.hb hby at_271) _ ?_
      show Steps pP.tables eE below (T317_.setTop (mkF mM 272 #[.val (.int p1), .val (.int p2), .val (.int p3), .val (.int p4), .val (.int (8 : Int32)), .val (.ref b1_), .val (.ref b267_), .val (.int vq), .val (.ref b_310_), .val (.int (1 : Int32)), .unset] [(.int x7)])) tT
      refine XS.sipush X317_.here hx rfl (Jvm.hb hby at_272) ?_
      show Steps pP.tables eE below (T317_.setTop (mkF mM 275 #[.val (.int p1), .val (.int p2), .val (.int p3), .val (.int p4), .val (.int (8 : Int32)), .val (.ref b1_), .val (.ref b267_), .val (.int vq), .val (.ref b_310_), .val (.int (1 : Int32)), .unset] [(.int (255 : Int32)), (.int x7)])) tT
      refine XS.iand X317_.here hx rfl (Jvm.hb hby at_275) rfl ?_
      show Steps pP.tables eE below (T317_.setTop (mkF mM 276 #[.val (.int p1), .val (.int p2), .val (.int p3), .val (.int p4), .val (.int (8 : Int32)), .val (.ref b1_), .val (.ref b267_), .val (.int vq), .val (.ref b_310_), .val (.int (1 : Int32)), .unset] [(.int (x7 &&& (255 : Int32)))])) tT
      refine XS.istore X317_.here hx rfl (Jvm.hb hby at_276) rfl (l' := #[.val (.int p1), .val (.int p2), .val (.int p3), .val (.int p4), .val (.int (8 : Int32)), .val (.ref b1_), .val (.ref b267_), .val (.int vq), .val (.ref b_310_), .val (.int (1 : Int32)), .val (.int (x7 &&& (255 : Int32)))]) rfl ?_
      show Steps pP.tables eE below (T317_.setTop (mkF mM 278 #[.val (.int p1), .val (.int p2), .val (.int p3), .val (.int p4), .val (.int (8 : Int32)), .val (.ref b1_), .val (.ref b267_), .val (.int vq), .val (.ref b_310_), .val (.int (1 : Int32)), .val (.int (x7 &&& (255 : Int32)))] [])) tT
      refine XS.iload X317_.here hx rfl (Jvm.hb hby at_278) rfl ?_
      show Steps pP.tables eE below (T317_.setTop (mkF mM 280 #[.val (.int p1), .val (.int p2), .val (.int p3), .val (.int p4), .val (.int (8 : Int32)), .val (.ref b1_), .val (.ref b267_), .val (.int vq), .val (.ref b_310_), .val (.int (1 : Int32)), .val (.int (x7 &&& (255 : Int32)))] [(.int (1 : Int32))])) tT
      refine XS.ifNo X317_.here hx rfl (Jvm.hb hby at_280) rfl ((if0 _ _).trans (feq ((by decide) : ¬ ((1 : Int32) = (0 : Int32)))).1) ?_
      show Steps pP.tables eE below (T317_.setTop (mkF mM 283 #[.val (.int p1), .val (.int p2), .val (.int p3), .val (.int p4), .val (.int (8 : Int32)), .val (.ref b1_), .val (.ref b267_), .val (.int vq), .val (.ref b_310_), .val (.int (1 : Int32)), .val (.int (x7 &&& (255 : Int32)))] [])) tT
      refine XS.aload X317_.here hx rfl (Jvm.hb hby at_283) rfl rfl ?_
      show Steps pP.tables eE below (T317_.setTop (mkF mM 285 #[.val (.int p1), .val (.int p2), .val (.int p3), .val (.int p4), .val (.int (8 : Int32)), .val (.ref b1_), .val (.ref b267_), .val (.int vq), .val (.ref b_310_), .val (.int (1 : Int32)), .val (.int (x7 &&& (255 : Int32)))] [(.ref b_310_)])) tT
      refine XS.iload X317_.here hx rfl (Jvm.hb hby at_285) rfl ?_
      show Steps pP.tables eE below (T317_.setTop (mkF mM 287 #[.val (.int p1), .val (.int p2), .val (.int p3), .val (.int p4), .val (.int (8 : Int32)), .val (.ref b1_), .val (.ref b267_), .val (.int vq), .val (.ref b_310_), .val (.int (1 : Int32)), .val (.int (x7 &&& (255 : Int32)))] [(.int (x7 &&& (255 : Int32))), (.ref b_310_)])) tT
      exact kK
    obtain ⟨cl320_, Ar320_, Sz320_, Nn320_, Hh320_⟩ := id p310__2
    have hin320_ : ¬ ((x7 &&& (255 : Int32)) < 0 ∨ cl320_.slots.size ≤ ((x7 &&& (255 : Int32))).toNatClampNeg) := inb_of Sz320_ (own_m255 x7)
    have hat320_ : cl320_.slots[((x7 &&& (255 : Int32))).toNatClampNeg]? = some (.int ((own_ft ([x0, x1, x2, x3, x4, x5, x6, x7] : List Int32) (8 : Int32).toNatClampNeg) (x7 &&& (255 : Int32)))) := Hh320_ _ hin320_
    refine own_fin (b := T317_.setTop (mkF mM 304 #[.val (.int p1), .val (.int p2), .val (.int p3), .val (.int p4), .val (.int (8 : Int32)), .val (.ref b1_), .val (.ref b267_), .val (.int vq), .val (.ref b_310_), .val (.int (1 : Int32)), .val (.int (x7 &&& (255 : Int32)))] [(.int (1 : Int32))])) (fun tT kK => ?_) ?_
    · show Steps pP.tables eE below (T317_.setTop (mkF mM 287 #[.val (.int p1), .val (.int p2), .val (.int p3), .val (.int p4), .val (.int (8 : Int32)), .val (.ref b1_), .val (.ref b267_), .val (.int vq), .val (.ref b_310_), .val (.int (1 : Int32)), .val (.int (x7 &&& (255 : Int32)))] [(.int (x7 &&& (255 : Int32))), (.ref b_310_)])) tT
      refine X317_.iaload hx (j := (x7 &&& (255 : Int32))) (v := (.int ((own_ft ([x0, x1, x2, x3, x4, x5, x6, x7] : List Int32) (8 : Int32).toNatClampNeg) (x7 &&& (255 : Int32))))) (own_rw p317__0 Ar320_.1) (State.isArrayOf_alike hZ.alike Ar320_.2.1) Ar320_.2.2 hin320_ hat320_ (g := (mkF mM 287 #[.val (.int p1), .val (.int p2), .val (.int p3), .val (.int p4), .val (.int (8 : Int32)), .val (.ref b1_), .val (.ref b267_), .val (.int vq), .val (.ref b_310_), .val (.int (1 : Int32)), .val (.int (x7 &&& (255 : Int32)))] [(.int (x7 &&& (255 : Int32))), (.ref b_310_)])) rfl rfl (Jvm.hb hby at_287) _ ?_
      show Steps pP.tables eE below (T317_.setTop (mkF mM 288 #[.val (.int p1), .val (.int p2), .val (.int p3), .val (.int p4), .val (.int (8 : Int32)), .val (.ref b1_), .val (.ref b267_), .val (.int vq), .val (.ref b_310_), .val (.int (1 : Int32)), .val (.int (x7 &&& (255 : Int32)))] [(.int ((own_ft ([x0, x1, x2, x3, x4, x5, x6, x7] : List Int32) (8 : Int32).toNatClampNeg) (x7 &&& (255 : Int32))))])) tT
      refine XS.iload X317_.here hx rfl (Jvm.hb hby at_288) rfl ?_
      show Steps pP.tables eE below (T317_.setTop (mkF mM 290 #[.val (.int p1), .val (.int p2), .val (.int p3), .val (.int p4), .val (.int (8 : Int32)), .val (.ref b1_), .val (.ref b267_), .val (.int vq), .val (.ref b_310_), .val (.int (1 : Int32)), .val (.int (x7 &&& (255 : Int32)))] [(.int (8 : Int32)), (.int ((own_ft ([x0, x1, x2, x3, x4, x5, x6, x7] : List Int32) (8 : Int32).toNatClampNeg) (x7 &&& (255 : Int32))))])) tT
      refine XS.iconst X317_.here hx rfl (Jvm.hb hby at_290) ?_
      show Steps pP.tables eE below (T317_.setTop (mkF mM 291 #[.val (.int p1), .val (.int p2), .val (.int p3), .val (.int p4), .val (.int (8 : Int32)), .val (.ref b1_), .val (.ref b267_), .val (.int vq), .val (.ref b_310_), .val (.int (1 : Int32)), .val (.int (x7 &&& (255 : Int32)))] [(.int (1 : Int32)), (.int (8 : Int32)), (.int ((own_ft ([x0, x1, x2, x3, x4, x5, x6, x7] : List Int32) (8 : Int32).toNatClampNeg) (x7 &&& (255 : Int32))))])) tT
      refine XS.isub X317_.here hx rfl (Jvm.hb hby at_291) rfl ?_
      show Steps pP.tables eE below (T317_.setTop (mkF mM 292 #[.val (.int p1), .val (.int p2), .val (.int p3), .val (.int p4), .val (.int (8 : Int32)), .val (.ref b1_), .val (.ref b267_), .val (.int vq), .val (.ref b_310_), .val (.int (1 : Int32)), .val (.int (x7 &&& (255 : Int32)))] [(.int (7 : Int32)), (.int ((own_ft ([x0, x1, x2, x3, x4, x5, x6, x7] : List Int32) (8 : Int32).toNatClampNeg) (x7 &&& (255 : Int32))))])) tT
      refine XS.icmpNo X317_.here hx rfl (Jvm.hb hby at_292) rfl (teq (own_last ([x0, x1, x2, x3, x4, x5, x6, x7] : List Int32) 7 : ((own_ft ([x0, x1, x2, x3, x4, x5, x6, x7] : List Int32) (8 : Int32).toNatClampNeg) (x7 &&& (255 : Int32))) = (7 : Int32))).2 ?_
      show Steps pP.tables eE below (T317_.setTop (mkF mM 295 #[.val (.int p1), .val (.int p2), .val (.int p3), .val (.int p4), .val (.int (8 : Int32)), .val (.ref b1_), .val (.ref b267_), .val (.int vq), .val (.ref b_310_), .val (.int (1 : Int32)), .val (.int (x7 &&& (255 : Int32)))] [])) tT
      refine XS.iconst X317_.here hx rfl (Jvm.hb hby at_295) ?_
      show Steps pP.tables eE below (T317_.setTop (mkF mM 296 #[.val (.int p1), .val (.int p2), .val (.int p3), .val (.int p4), .val (.int (8 : Int32)), .val (.ref b1_), .val (.ref b267_), .val (.int vq), .val (.ref b_310_), .val (.int (1 : Int32)), .val (.int (x7 &&& (255 : Int32)))] [(.int (1 : Int32))])) tT
      refine XS.goto X317_.here hx rfl (pc0 := 296) (pc' := 300) rfl (Jvm.hb hby at_296) (by decide) (by decide) ?_
      show Steps pP.tables eE below (T317_.setTop (mkF mM 300 #[.val (.int p1), .val (.int p2), .val (.int p3), .val (.int p4), .val (.int (8 : Int32)), .val (.ref b1_), .val (.ref b267_), .val (.int vq), .val (.ref b_310_), .val (.int (1 : Int32)), .val (.int (x7 &&& (255 : Int32)))] [(.int (1 : Int32))])) tT
      refine XS.istore X317_.here hx rfl (Jvm.hb hby at_300) rfl (l' := #[.val (.int p1), .val (.int p2), .val (.int p3), .val (.int p4), .val (.int (8 : Int32)), .val (.ref b1_), .val (.ref b267_), .val (.int vq), .val (.ref b_310_), .val (.int (1 : Int32)), .val (.int (x7 &&& (255 : Int32)))]) rfl ?_
      show Steps pP.tables eE below (T317_.setTop (mkF mM 302 #[.val (.int p1), .val (.int p2), .val (.int p3), .val (.int p4), .val (.int (8 : Int32)), .val (.ref b1_), .val (.ref b267_), .val (.int vq), .val (.ref b_310_), .val (.int (1 : Int32)), .val (.int (x7 &&& (255 : Int32)))] [])) tT
      refine XS.iload X317_.here hx rfl (Jvm.hb hby at_302) rfl ?_
      show Steps pP.tables eE below (T317_.setTop (mkF mM 304 #[.val (.int p1), .val (.int p2), .val (.int p3), .val (.int p4), .val (.int (8 : Int32)), .val (.ref b1_), .val (.ref b267_), .val (.int vq), .val (.ref b_310_), .val (.int (1 : Int32)), .val (.int (x7 &&& (255 : Int32)))] [(.int (1 : Int32))])) tT
      exact kK
    obtain ⟨fs, hr, hrun, hended, hW, hsame⟩ := X317_.leave (v := some (.int (1 : Int32))) (fun h => by rw [Bd.returns] at h; cases h)
    refine ⟨_, _, ?_, hrun, hended, _, _, rfl, ?_, ⟨_, rfl⟩, hW, hsame.mono (by decide) (by decide)⟩
    · show Steps pP.tables eE below (T317_.setTop (mkF mM 304 #[.val (.int p1), .val (.int p2), .val (.int p3), .val (.int p4), .val (.int (8 : Int32)), .val (.ref b1_), .val (.ref b267_), .val (.int vq), .val (.ref b_310_), .val (.int (1 : Int32)), .val (.int (x7 &&& (255 : Int32)))] [(.int (1 : Int32))])) _
      exact retN X317_ hx (t := .boolean) Bd.returns (by simp) (Jvm.hb hby at_304) hr
    · show Q_rm0 Z p1 p2 p3 p4 h0 n0 _ T317_.heap _
      rw [p317__0]
      exact ⟨rfl, N317_⟩
set_option maxRecDepth 65536 in
set_option maxHeartbeats 40000000 in
theorem comes_1 {Post : Tables → Env → Array Value → State → Outcome → State → Prop} (hpost : ∀ tb e args s v u, (limb_1_1.after args s (.returned v) u = true ∧ limb_1_2.after args s (.returned v) u = true ∧ True) → FrameEnd s (.returned v) u (Jvm.fieldLocs frame_1_writes args s ++ Jvm.arrayLocs frame_1_arrays args s ++ Jvm.staticLocs frame_1_statics s) 16 640 → Post tb e args s (.returned v) u) :
    ArmFor flags0 classFile x code maxLocals ret World_1 tables_1 room_1 Calls_1 rest_1 Pre_1 Post := by
  intro l hfl _ _ p e ha hc hk s m args below hf hA hF happ hP
  obtain ⟨hcalls, hrest, hpre⟩ := hP
  obtain ⟨-, -, -, hnamed, -, -, -, hat⟩ := (Spec.applies_iff hf).mp happ
  obtain ⟨hg, hn⟩ := and_e (Cond.before_iff.mp (show (Jvm.Cond.and given_1 narrow_1).before args s = true from hpre))
  obtain ⟨gg1, gg2⟩ := and_e hg
  obtain ⟨gg3, gg4⟩ := and_e gg2
  obtain ⟨gg5, gg6⟩ := and_e gg4
  obtain ⟨gg7, gg8⟩ := and_e gg6
  obtain ⟨w0, w1, w2, w3, rfl⟩ : ∃ w0 w1 w2 w3 : Value, args = #[w0, w1, w2, w3] := by
    have hs : args.size = 4 := by simpa [Cond.value, given_1] using gg1
    obtain ⟨L⟩ := args
    match L, hs with
    | [w0, w1, w2, w3], _ => exact ⟨w0, w1, w2, w3, rfl⟩
  have hw := fun d (hd : d ∈ tables_1) => atoms_spec (ws := Jvm.Cond.code x code maxLocals ret :: tables_1) hat d (List.mem_cons_of_mem _ hd)
  have hfit : Fit s := fun {y c} hc i hi => by
    obtain ⟨ha, rfl⟩ := Array.getElem?_eq_some_iff.mp hc
    have q := List.all_eq_true.mp ((Array.all_eq_true_iff_forall_mem.mp hF) _ (Array.getElem_mem ha)) i (List.mem_range.mpr hi)
    simpa [Array.getElem?_eq_getElem hi] using q
  obtain ⟨i0, ei0⟩ := is_v gg3
  obtain rfl : w0 = (.int i0) := Option.some.inj ei0
  obtain ⟨i1, ei1⟩ := is_v gg5
  obtain rfl : w1 = (.int i1) := Option.some.inj ei1
  obtain ⟨i2, ei2⟩ := is_v gg7
  obtain rfl : w2 = (.int i2) := Option.some.inj ei2
  obtain ⟨i3, ei3⟩ := is_v gg8
  obtain rfl : w3 = (.int i3) := Option.some.inj ei3
  obtain ⟨n, o, h1, h2, h3, _, L, rfl, ⟨rfl, N⟩, hq⟩ := rm0 l s _ hw tables_1 i0 i1 i2 i3 s.heap s.heap.size (Nat.le_refl _)  p e ha hc hk s m _ below hf ((Spec.applies_iff_loose hf).mp happ).1 ⟨rfl, State.Warmed39.refl s, rfl⟩ trivial
  refine ⟨n, _, h1, h2, h3, hpost _ _ _ _ _ _ ⟨Cond.after_iff.mpr rfl, Cond.after_iff.mpr (eq_i res_at (Term.int_eval (1)) rfl), trivial⟩ ⟨hq.1, hq.2.1, (hq.2.2.sift fun y hy => Or.inr (N y hy)).mono (by decide) (by decide)⟩⟩
theorem main_1_1 : Claimed_1_1 := comes_1 fun _ _ _ _ _ _ h hF => ⟨h.1, hF⟩
theorem main_1_2 : Claimed_1_2 := comes_1 fun _ _ _ _ _ _ h hF => ⟨h.2.1, hF⟩
end Jvm.Pilot.@@N@@
namespace Jvm.Pilot.@@N@@
open Jvm Jvm.ClassFile Sem Op Lib Jvm.Free Jvm.Stand Jvm.Pilot.@@N@@.Jvm.D
/-! MADE BY PROGRAM (witnessworld.py) out of the Statement's table words and the real class files: 11 classes; the members and pool entries that the words name. The judged class is class 1, her method 1. -/
namespace start1
open Jvm.ClassFile
def u (s : String) : CpInfo := .utf8 (stringToUtf16 s)
/-- a pool by its gaps: so many unusable entries, then the entry; so many at the end -/
def gap : Nat → List CpInfo → List CpInfo
  | 0, r => r
  | n + 1, r => .unusable :: gap n r
def poolList (es : List (Nat × CpInfo)) (last : Nat) : List CpInfo := es.foldr (fun e r => gap e.1 (e.2 :: r)) (gap last [])
def pool (es : List (Nat × CpInfo)) (last : Nat) : Array CpInfo := ⟨poolList es last⟩
def fileOf (pool : Array CpInfo) (this : Nat) (attrs : Array Attribute := #[]) (ms : Array MethodInfo := #[]) (fl : Nat := 33) (sup : Nat := 0) (ifs : Array Nat := #[]) (fds : Array FieldInfo := #[]) : ClassFile where
  minorVersion := 0
  majorVersion := 65
  constantPool := pool
  accessFlags := fl
  thisClass := this
  superClass := sup
  interfaces := ifs
  fields := fds
  methods := ms
  attributes := attrs
def plain (name : String) (sup : Option ClassId) : Class where
  name := name
  kind := .ordinary
  loader := none
  accessFlags := 33
  super := sup
  interfaces := #[]
  cf := none
  fields := #[]
  methods := #[]
  instanceTypes := #[]
  staticTypes := #[]
  resolved := #[]
  callSites := []
  init := .initialized
  statics := none
  mirror := none

def pool0 : Array CpInfo := pool [(5, u "<init>"), (0, u "()V"), (1, .class_ 10), (1, u "java/lang/Object")] 113

def k0m0 : Method := { name := "<init>", desc := "()V", sig := { parameters := [], returnType := none }, accessFlags := 1, code := none }
/-- java/lang/Object -/
def k0 : Class := { plain "java/lang/Object" none with
  accessFlags := 33
  interfaces := #[]
  cf := some (fileOf pool0 8 #[] #[{ accessFlags := 1, nameIndex := 5, descriptorIndex := 6, attributes := #[] }] 33 0 #[] #[])
  fields := #[]
  methods := #[k0m0]
  instanceTypes := #[]
  staticTypes := #[]
  resolved := Array.replicate 124 none
  statics := none }

def pool1 : Array CpInfo := pool [(2, .class_ 4), (1, u "java/lang/Object"), (0, u "<init>"), (0, u "()V"), (0, .methodref 8 9), (0, .class_ 10), (0, .nameAndType 11 12), (0, u "com/example/needlework/needlework/BoyerMoore"), (0, u "rightmost"), (0, u "([B)[I"), (0, .methodref 14 15), (0, .class_ 16), (0, .nameAndType 17 18), (0, u "com/example/needlework/needlework/BoyerMooreRightmostPinLaw"), (0, u "ref"), (0, u "([BII)I"), (2, u "law"), (0, u "(IIII)Z")] 7

def k1m0 : Method := { name := "<init>", desc := "()V", sig := { parameters := [], returnType := none }, accessFlags := 1, code := none }
def k1c1 : Code := { maxStack := 4, maxLocals := 11, code := code, exceptionTable := #[], attributes := #[] }
def k1m1 : Method := { name := "law", desc := "(IIII)Z", sig := { parameters := [.int, .int, .int, .int], returnType := some .boolean }, accessFlags := 9, code := some k1c1 }
def k1c2 : Code := { maxStack := 2, maxLocals := 4, code := method_3_code, exceptionTable := #[], attributes := #[] }
def k1m2 : Method := { name := "ref", desc := "([BII)I", sig := { parameters := [(.array .byte), .int, .int], returnType := some .int }, accessFlags := 10, code := some k1c2 }
/-- com/example/needlework/needlework/BoyerMooreRightmostPinLaw -/
def k1 : Class := { plain "com/example/needlework/needlework/BoyerMooreRightmostPinLaw" (some 0) with
  accessFlags := 49
  interfaces := #[]
  cf := some (fileOf pool1 14 #[] #[{ accessFlags := 1, nameIndex := 5, descriptorIndex := 6, attributes := #[] }, { accessFlags := 9, nameIndex := 21, descriptorIndex := 22, attributes := #[] }, { accessFlags := 10, nameIndex := 17, descriptorIndex := 18, attributes := #[] }] 49 2 #[] #[])
  fields := #[]
  methods := #[k1m0, k1m1, k1m2]
  instanceTypes := #[]
  staticTypes := #[]
  resolved := Array.replicate 30 none
  statics := none }

def pool2 : Array CpInfo := pool [(2, .class_ 4), (1, u "java/lang/Object"), (3, .class_ 10), (1, u "com/example/needlework/needlework/ByteSearcher"), (0, u "pattern"), (0, u "[B"), (143, .class_ 157), (0, u "com/example/needlework/needlework/ByteSearcher$1"), (65, u "DEFAULT_READ_SIZE"), (0, u "I"), (1, u "MOST_READ_SIZE")] 47

/-- com/example/needlework/needlework/ByteSearcher -/
def k2 : Class := { plain "com/example/needlework/needlework/ByteSearcher" (some 0) with
  accessFlags := 1057
  interfaces := #[]
  cf := some (fileOf pool2 8 #[.nestMembers #[156]] #[] 1057 2 #[] #[{ accessFlags := 25, nameIndex := 223, descriptorIndex := 224, attributes := #[] }, { accessFlags := 26, nameIndex := 226, descriptorIndex := 224, attributes := #[] }, { accessFlags := 16, nameIndex := 11, descriptorIndex := 12, attributes := #[] }])
  fields := #[{ name := "DEFAULT_READ_SIZE", type := .int, accessFlags := 25, slot := 0, constantValue := 0 }, { name := "MOST_READ_SIZE", type := .int, accessFlags := 26, slot := 1, constantValue := 0 }, { name := "pattern", type := (.array .byte), accessFlags := 16, slot := 0, constantValue := 0 }]
  methods := #[]
  instanceTypes := #[(.array .byte)]
  staticTypes := #[.int, .int]
  resolved := Array.replicate 274 none
  statics := none }

def pool3 : Array CpInfo := pool [(2, .class_ 4), (1, u "com/example/needlework/needlework/ByteSearcher"), (3, .class_ 10), (1, u "com/example/needlework/needlework/BoyerMoore"), (0, u "rightmost"), (0, u "([B)[I"), (2, u "[I"), (0, .methodref 17 18), (0, .class_ 19), (0, .nameAndType 20 21), (0, u "java/util/Arrays"), (0, u "fill"), (0, u "([II)V"), (4, .class_ 27), (0, u "com/example/needlework/needlework/BoyerMoore$Search")] 16

def k3c0 : Code := { maxStack := 3, maxLocals := 3, code := prog_2_method_2_code, exceptionTable := #[], attributes := #[] }
def k3m0 : Method := { name := "rightmost", desc := "([B)[I", sig := { parameters := [(.array .byte)], returnType := some (.array .int) }, accessFlags := 8, code := some k3c0 }
/-- com/example/needlework/needlework/BoyerMoore -/
def k3 : Class := { plain "com/example/needlework/needlework/BoyerMoore" (some 2) with
  accessFlags := 48
  interfaces := #[]
  cf := some (fileOf pool3 8 #[.nestMembers #[26]] #[{ accessFlags := 8, nameIndex := 11, descriptorIndex := 12, attributes := #[] }] 48 2 #[] #[{ accessFlags := 18, nameIndex := 11, descriptorIndex := 15, attributes := #[] }])
  fields := #[{ name := "rightmost", type := (.array .int), accessFlags := 18, slot := 1, constantValue := 0 }]
  methods := #[k3m0]
  instanceTypes := #[(.array .byte), (.array .int)]
  staticTypes := #[]
  resolved := Array.replicate 44 none
  statics := none }

def pool4 : Array CpInfo := pool [(2, .class_ 4), (1, u "java/lang/Object"), (0, u "<init>"), (0, u "()V"), (7, .class_ 16), (1, u "java/util/Arrays"), (57, .class_ 76), (1, u "java/util/Arrays$NaturalOrder"), (36, .class_ 115), (1, u "java/util/Arrays$LegacyMergeSort"), (1, u "Z"), (257, .class_ 376), (0, u "java/util/Arrays$ArrayList"), (68, u "$assertionsDisabled"), (269, u "MIN_ARRAY_SORT_GRAN"), (0, u "I"), (2, u "INSERTIONSORT_THRESHOLD"), (120, u "fill"), (4, u "([II)V"), (129, .class_ 976), (0, u "java/util/Arrays$ArrayItr")] 52

def k4m0 : Method := { name := "<init>", desc := "()V", sig := { parameters := [], returnType := none }, accessFlags := 2, code := none }
def k4c1 : Code := { maxStack := 3, maxLocals := 4, code := jdk_65_method_103_code, exceptionTable := #[], attributes := #[] }
def k4m1 : Method := { name := "fill", desc := "([II)V", sig := { parameters := [(.array .int), .int], returnType := none }, accessFlags := 9, code := some k4c1 }
/-- java/util/Arrays -/
def k4 : Class := { plain "java/util/Arrays" (some 0) with
  accessFlags := 49
  interfaces := #[]
  cf := some (fileOf pool4 14 #[.nestMembers #[975, 375, 113, 74]] #[{ accessFlags := 2, nameIndex := 5, descriptorIndex := 6, attributes := #[] }, { accessFlags := 9, nameIndex := 840, descriptorIndex := 845, attributes := #[] }] 49 2 #[] #[{ accessFlags := 26, nameIndex := 715, descriptorIndex := 716, attributes := #[] }, { accessFlags := 26, nameIndex := 719, descriptorIndex := 716, attributes := #[] }, { accessFlags := 4120, nameIndex := 445, descriptorIndex := 117, attributes := #[] }])
  fields := #[{ name := "MIN_ARRAY_SORT_GRAN", type := .int, accessFlags := 26, slot := 0, constantValue := 0 }, { name := "INSERTIONSORT_THRESHOLD", type := .int, accessFlags := 26, slot := 1, constantValue := 0 }, { name := "$assertionsDisabled", type := .boolean, accessFlags := 4120, slot := 2, constantValue := 0 }]
  methods := #[k4m0, k4m1]
  instanceTypes := #[]
  staticTypes := #[.int, .int, .boolean]
  resolved := Array.replicate 1029 none
  statics := none }

def pool5 : Array CpInfo := pool [(1, u "java/lang/Cloneable"), (0, .class_ 1), (0, u "java/lang/Object"), (0, .class_ 3)] 3

/-- java/lang/Cloneable -/
def k5 : Class := { plain "java/lang/Cloneable" (some 0) with
  accessFlags := 1537
  interfaces := #[]
  cf := some (fileOf pool5 2 #[] #[] 1537 4 #[] #[])
  fields := #[]
  methods := #[]
  instanceTypes := #[]
  staticTypes := #[]
  resolved := Array.replicate 8 none
  statics := none }

def pool6 : Array CpInfo := pool [(1, u "java/io/Serializable"), (0, .class_ 1), (0, u "java/lang/Object"), (0, .class_ 3)] 3

/-- java/io/Serializable -/
def k6 : Class := { plain "java/io/Serializable" (some 0) with
  accessFlags := 1537
  interfaces := #[]
  cf := some (fileOf pool6 2 #[] #[] 1537 4 #[] #[])
  fields := #[]
  methods := #[]
  instanceTypes := #[]
  staticTypes := #[]
  resolved := Array.replicate 8 none
  statics := none }

/-- the primitive byte -/
def k7 : Class := { plain "byte" none with kind := .primitive 'B', accessFlags := 0x411 }
/-- [B -/
def k8 : Class := { plain "[B" (some 0) with kind := .array 7 .byte, interfaces := #[5, 6], accessFlags := 1041 }

/-- the primitive int -/
def k9 : Class := { plain "int" none with kind := .primitive 'I', accessFlags := 0x411 }
/-- [I -/
def k10 : Class := { plain "[I" (some 0) with kind := .array 9 .int, interfaces := #[5, 6], accessFlags := 1041 }

def heap : Heap := #[]
def classes : Array Class := #[k0, k1, k2, k3, k4, k5, k6, k7, k8, k9, k10]
def interned : List (Array UInt16 × Addr) := []
def slotsUsed : Nat := 0
def theMethod : MethodId := ⟨1, 1⟩
def args0 : Array Value := #[.int 5, .int 5, .int 5, .int 5]
def aboutOver (below : List Frame) : State where
  vm := { classes := classes, interned := interned.toArray }
  heap := heap
  slotsUsed := slotsUsed
  threads := #[{ frames := .invoking theMethod args0 :: below }]
def below0 : List Frame := [.native { method := ⟨0, 0⟩, args := #[] }]
def about1 : State := aboutOver below0
def p0 : Program := .bare "" "" ""
def e0 : Env := launch0.env 0 0 0
theorem w_frames : about1.frames = Frame.invoking theMethod args0 :: below0 := rfl
set_option maxRecDepth 65536 in
theorem w_args : argsFit about1.vm theMethod args0 = true := by decide +kernel
set_option maxRecDepth 65536 in
theorem w_heap : heapFits about1 = true := by decide +kernel
set_option maxRecDepth 65536 in
theorem w_runnable : about1.curStatus? = some .runnable := by decide +kernel
set_option maxRecDepth 65536 in
theorem w_alone : about1.alone = true := by decide +kernel
set_option maxRecDepth 65536 in
theorem w_named : about1.methodNamed? x = some theMethod := by decide +kernel
set_option maxRecDepth 65536 in
theorem w_hears : about1.hears theMethod below0 = true := by decide +kernel
set_option maxRecDepth 65536 in
theorem w_ripe : about1.ripe theMethod args0 below0 = true := by decide +kernel
theorem w_running : about1.status = .running := rfl
set_option maxRecDepth 65536 in
theorem w_room : about1.hasRoom e0.platform room_1 = true :=
  launch0.hasRoom_least _ room_1 (by decide +kernel) (by decide +kernel) (by decide +kernel) (by decide +kernel) (by decide +kernel) (by decide +kernel)
theorem allAtoms_all (ts : List Jvm.Cond) (a : Array Jvm.Value) (st : Jvm.State) : (allAtoms ts).before a st = ts.all (fun c => c.before a st) := by
  induction ts with
  | nil => rfl
  | cons c t ih =>
    show (Jvm.Cond.and c (allAtoms t)).before a st = _
    rw [Jvm.Cond.before_and, ih, List.all_cons]
def words1 : List Jvm.Cond := Jvm.Cond.code x code maxLocals ret :: tables_1
/-- a 'code' word, met by the world's own term for the bytes: nothing is compared byte by byte -/
theorem code_word {y : MethodName} {bytes : ByteArray} {mx : Nat} {rt : Option FieldType} {a : Array Value} {s : State} {m : MethodId} {meth : Method} {c : Code} (h1 : s.methodNamed? y = some m) (h2 : s.vm.method? m = some meth) (h3 : meth.code = some c) (h4 : c.code = bytes)
    (h5 : (c.maxLocals == mx && c.exceptionTable.isEmpty && decide (c.maxStack ≤ mostOperands) && decide (meth.sig.returnType = rt) && !meth.locks && decide (parseMethodDescriptor y.desc = some meth.sig)) = true) : (Jvm.Cond.code y bytes mx rt).before a s = true := by
  simp only [Bool.and_eq_true, beq_iff_eq, Bool.not_eq_true', decide_eq_true_eq] at h5
  obtain ⟨⟨⟨⟨⟨g1, g2⟩, g3⟩, g4⟩, g5⟩, g6⟩ := h5
  simp [Cond.before, Cond.holds, Cond.value, h1, h2, h3, h4, g1, g2, g3, g4, g5, g6]
def isCode : Jvm.Cond → Bool
  | .code _ _ _ _ => true
  | _ => false
theorem all_split {L : List Jvm.Cond} {P : Jvm.Cond → Bool} (h1 : L.all (fun c => isCode c || P c) = true) (h2 : ∀ c ∈ L.filter isCode, P c = true) : L.all P = true := by
  refine List.all_eq_true.mpr fun c hc => ?_
  have h := List.all_eq_true.mp h1 c hc
  rcases Bool.eq_false_or_eq_true (isCode c) with hi | hi
  · exact h2 c (List.mem_filter.mpr ⟨hc, hi⟩)
  · simpa [hi] using h
set_option maxRecDepth 65536 in
theorem w_c0 : (Jvm.Cond.code x code maxLocals ret).before args0 about1 = true := code_word (m := ⟨1, 1⟩) (meth := k1m1) (c := k1c1) (by decide +kernel) rfl rfl rfl (by decide +kernel)
set_option maxRecDepth 65536 in
theorem w_c1 : (Jvm.Cond.code ({ cls := "com/example/needlework/needlework/BoyerMoore", name := "rightmost", desc := "([B)[I" } : Jvm.MethodName) prog_2_method_2_code (3 : Nat) (Option.some (Jvm.ClassFile.FieldType.array Jvm.ClassFile.FieldType.int))).before args0 about1 = true := code_word (m := ⟨3, 0⟩) (meth := k3m0) (c := k3c0) (by decide +kernel) rfl rfl rfl (by decide +kernel)
set_option maxRecDepth 65536 in
theorem w_c2 : (Jvm.Cond.code ({ cls := "java/util/Arrays", name := "fill", desc := "([II)V" } : Jvm.MethodName) jdk_65_method_103_code (4 : Nat) (Option.none : Option Jvm.ClassFile.FieldType)).before args0 about1 = true := code_word (m := ⟨4, 1⟩) (meth := k4m1) (c := k4c1) (by decide +kernel) rfl rfl rfl (by decide +kernel)
set_option maxRecDepth 65536 in
theorem w_c3 : (Jvm.Cond.code ({ cls := "com/example/needlework/needlework/BoyerMooreRightmostPinLaw", name := "ref", desc := "([BII)I" } : Jvm.MethodName) method_3_code (4 : Nat) (Option.some Jvm.ClassFile.FieldType.int)).before args0 about1 = true := code_word (m := ⟨1, 2⟩) (meth := k1m2) (c := k1c2) (by decide +kernel) rfl rfl rfl (by decide +kernel)
def codes1 : List Jvm.Cond := [Jvm.Cond.code x code maxLocals ret, Jvm.Cond.code ({ cls := "com/example/needlework/needlework/BoyerMoore", name := "rightmost", desc := "([B)[I" } : Jvm.MethodName) prog_2_method_2_code (3 : Nat) (Option.some (Jvm.ClassFile.FieldType.array Jvm.ClassFile.FieldType.int)), Jvm.Cond.code ({ cls := "java/util/Arrays", name := "fill", desc := "([II)V" } : Jvm.MethodName) jdk_65_method_103_code (4 : Nat) (Option.none : Option Jvm.ClassFile.FieldType), Jvm.Cond.code ({ cls := "com/example/needlework/needlework/BoyerMooreRightmostPinLaw", name := "ref", desc := "([BII)I" } : Jvm.MethodName) method_3_code (4 : Nat) (Option.some Jvm.ClassFile.FieldType.int)]
set_option maxRecDepth 65536 in
theorem codes_eq : words1.filter isCode = codes1 := rfl
theorem w_codes : ∀ c ∈ words1.filter isCode, c.before args0 about1 = true := by
  rw [codes_eq]
  intro c hc
  simp only [codes1, List.mem_cons, List.not_mem_nil, or_false] at hc
  rcases hc with rfl | rfl | rfl | rfl
  · exact w_c0
  · exact w_c1
  · exact w_c2
  · exact w_c3
set_option maxRecDepth 65536 in
theorem w_t1 : words1.all (fun c => isCode c || c.before args0 about1) = true := by decide +kernel
theorem w_tables : (allAtoms (Jvm.Cond.code x code maxLocals ret :: tables_1)).before args0 about1 = true := by
  rw [allAtoms_all]
  show words1.all (fun c => c.before args0 about1) = true
  refine all_split ?_ w_codes
  rw [w_t1]
set_option maxRecDepth 65536 in
theorem w_case : (Jvm.Cond.and given_1 narrow_1).before args0 about1 = true := by decide +kernel
theorem w_applies : (headSpec (Jvm.Cond.code x code maxLocals ret :: tables_1) room_1).applies x e0.platform about1 = true :=
  (Spec.applies_iff w_frames).mpr ⟨w_running, w_runnable, w_alone, w_named, w_hears, w_ripe, w_room, w_tables⟩
theorem atStart : AtStart classFile x code maxLocals ret World_1 tables_1 room_1 Calls_1 rest_1 Pre_1 launch0 p0 e0 about1 theMethod args0 below0 :=
  ⟨lists_1, trivial, launch0.admits_env _ _ _, launch0.least_env, fairChoices_fair.cas, fairChoices_fair.clock, w_frames, w_args, w_heap, w_applies, trivial, trivial, w_case⟩
end start1
theorem witness_1 : WitnessClaimed_1 := ⟨start1.p0, start1.e0, start1.about1, start1.theMethod, start1.args0, start1.below0, start1.atStart⟩
end Jvm.Pilot.@@N@@
