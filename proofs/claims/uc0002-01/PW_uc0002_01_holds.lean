import PyProof.Rows.All
import Wide.All
import OpenK.AllK
import Wide.FinOn
import PySem.Challenge.RW_uc0002_01
open PySem PySem.W PyProof.Rows PySem.Calls
set_option Elab.async false
set_option maxRecDepth 100000
set_option maxHeartbeats 8000000
set_option linter.unusedVariables false
namespace Mine
open_top hd for PySem.Challenge.rw_uc0002_01
theorem a1 {a b : Nat} (h : a < b) : a + 1 ≤ b := h
theorem a2 {a b : Nat} (h : a < b) : a ≤ b := Nat.le_of_lt h
theorem a3 {a b c : Nat} (h : a ≤ b) (k : b ≤ c) : a ≤ c := Nat.le_trans h k
theorem dl {a b : Nat} (h : a < b) : b - (a + 1) < b - a := Nat.sub_succ_lt_self b a h
theorem ee {a b : Nat} (h : a ≤ b) (k : ¬ a < b) : a = b := Nat.le_antisymm h (Nat.le_of_not_lt k)
theorem s1 {c k : Nat} (h : k ≤ c) : k - 1 ≤ c := Nat.le_trans (Nat.sub_le _ _) h
theorem s2 {j k : Nat} (h : j < k) : k - 1 < k := Nat.sub_lt (Nat.lt_of_le_of_lt (Nat.zero_le _) h) Nat.one_pos
theorem s3 {j k : Nat} (h : j < k) : j ≤ k - 1 := Nat.le_sub_one_of_lt h
theorem s5 {a b : Nat} (h : a < b) : b - 1 - a < b := Nat.lt_of_le_of_lt (Nat.sub_le _ _) (s2 h)
theorem s10 {a b c : Nat} (h : a = b) (k : b ≤ c) : a ≤ c := h ▸ k
theorem s12 {p z n : Nat} (h : p + z ≤ n) : min z (n - p) = z := Nat.min_eq_left (Nat.le_sub_of_add_le' h)
theorem s13 {p e n : Nat} (h : p < e) (k : e ≤ n) : p + (e - p) ≤ n := by rw [Nat.add_sub_cancel' (Nat.le_of_lt h)]; exact k
theorem s14 {p e n : Nat} (k : e ≤ n) : min (e - p) (n - p) = e - p := Nat.min_eq_left (Nat.sub_le_sub_right k p)
theorem s15 {x : Nat} (h : ¬ x < 256) : (x : Int) - 256 = ((x - 256 : Nat) : Int) := (Int.ofNat_sub (Nat.le_of_not_lt h)).symm
theorem s16 {x : Nat} (h : 1 ≤ x) : (x : Int) - 1 = ((x - 1 : Nat) : Int) := (Int.ofNat_sub h).symm
theorem s17 {x y : Nat} (h : y < x) : (x : Int) - (y : Int) = ((x - y : Nat) : Int) := (Int.ofNat_sub (Nat.le_of_lt h)).symm
theorem s18 {x y : Nat} (h : decide ((x : Int) < (y : Int)) = true) : x < y := Int.ofNat_lt.mp (of_decide_eq_true h)
theorem s19 {x y : Nat} (h : decide ((x : Int) < (y : Int)) = false) : ¬ x < y := fun q => of_decide_eq_false h (Int.ofNat_lt.mpr q)
theorem s20 {x y : Nat} (h : x < y) : (x : Int) < (y : Int) := Int.ofNat_lt.mpr h
theorem s21 {b z : Nat} (h : b < 127) (k : 1 ≤ z ∧ z ≤ b) : ¬ z = 0 ∧ ¬ z = 127 := ⟨Nat.ne_of_gt k.1, Nat.ne_of_lt (Nat.lt_of_le_of_lt k.2 h)⟩
theorem s24 {i n : Nat} (h : i ≤ n) (k : ¬ i = n) : i + 1 ≤ n := Nat.lt_of_le_of_ne h k
theorem s25 {i n : Nat} (h : i ≤ n) (k : ¬ i = n) : n + 1 - (i + 1) < n + 1 - i := Nat.sub_succ_lt_self (n + 1) i (Nat.lt_succ_of_le h)
theorem s26 {p r e : Nat} (h : e - p ≤ r) : e + (p + r - e) = p + r := Nat.add_sub_cancel' (Nat.sub_le_iff_le_add'.mp h)
theorem s27 {p j b : Nat} (h : ¬ p + j < b) : b - p ≤ j := Nat.sub_le_iff_le_add'.mpr (Nat.le_of_not_lt h)
theorem s28 {p j b : Nat} (h : p < b) (k : ¬ p + j < b) : j - (b - p) = p + j - b := by
  have e : b = p + (b - p) := (Nat.add_sub_cancel' (Nat.le_of_lt h)).symm
  rw [e, Nat.add_sub_add_left, ← e]
theorem s29 {p j b : Nat} (h : p < b) (k : ¬ p + j < b) : p + j - b < j := Nat.sub_lt_left_of_lt_add (Nat.le_of_not_lt k) (Nat.add_lt_add_right h j)
theorem s30 {p j b : Nat} (k : p + j < b) : j < b - p := Nat.lt_sub_of_add_lt (by rw [Nat.add_comm]; exact k)
theorem s31 {f lo hi m : Nat} (h : hi - lo ≤ f + 1) (k : lo ≤ m) : hi - (m + 1) ≤ f := Nat.sub_le_of_le_add (Nat.le_trans (Nat.sub_le_iff_le_add.mp h) (by rw [Nat.add_right_comm, Nat.add_assoc]; exact Nat.add_le_add_left (Nat.succ_le_succ k) f))
theorem s32 {f lo hi m : Nat} (h : hi - lo ≤ f + 1) (k : m < hi) : m - lo ≤ f := by
  rcases Nat.lt_or_ge m lo with q | q
  · rw [Nat.sub_eq_zero_of_le (Nat.le_of_lt q)]; exact Nat.zero_le f
  · exact Nat.le_of_lt_succ (Nat.lt_of_lt_of_le (Nat.sub_lt_sub_right q k) h)
theorem half_lo {lo hi : Nat} (h : lo ≤ hi) : lo ≤ (lo + hi) / 2 := (Nat.le_div_iff_mul_le (by decide)).mpr (by rw [Nat.mul_two]; exact Nat.add_le_add_left h lo)
theorem half_lt {lo hi : Nat} (h : lo < hi) : (lo + hi) / 2 < hi := Nat.div_lt_of_lt_mul (by rw [Nat.two_mul]; exact Nat.add_lt_add_right h hi)
theorem s33 {lo hi m : Nat} (h : hi - lo ≤ m + 1) : hi - ((lo + hi) / 2 + 1) ≤ m := by
  rcases Nat.le_total lo hi with q | q
  · exact s31 h (half_lo q)
  · rw [Nat.sub_eq_zero_of_le (Nat.le_succ_of_le (Nat.add_comm hi lo ▸ half_lo q))]; exact Nat.zero_le m
theorem s34 {lo hi m : Nat} (h : decide ((lo : Int) < (hi : Int)) = true) (k : hi - lo ≤ m + 1) : (lo + hi) / 2 - lo ≤ m := s32 k (half_lt (s18 h))
theorem s35 {lo hi n : Nat} (h : decide ((lo : Int) < (hi : Int)) = true) (k : hi ≤ n) : (lo + hi) / 2 < n := Nat.lt_of_lt_of_le (half_lt (s18 h)) k
theorem s36 {lo hi n : Nat} (h : decide ((lo : Int) < (hi : Int)) = true) (k : hi - lo ≤ n) : n = n - 1 + 1 := (Nat.sub_add_cancel (Nat.le_trans (Nat.sub_pos_of_lt (s18 h)) k)).symm
theorem s37 {i m : Nat} (h : 39 - i ≤ m) : 39 - (i + 1) ≤ m := Nat.le_trans (Nat.sub_le_sub_left (Nat.le_succ i) 39) h
theorem s38 {k : Nat} (h : k < 16) : 40 - k = 39 - k + 1 := Nat.succ_sub (Nat.le_trans (Nat.le_of_lt h) (by decide))
theorem s43 {n p k : Nat} (h : n = k + 1 + p) : n - 1 - k = p := by rw [h, Nat.sub_sub, Nat.add_comm 1 k, Nat.add_sub_cancel_left]
theorem s44 {i n : Nat} (h : i < n) : ((n : Int) - 1 + (i : Int) * -1) = ((n - 1 - i : Nat) : Int) := by
  rw [Int.mul_neg_one, ← Int.sub_eq_add_neg, s16 (Nat.lt_of_le_of_lt (Nat.zero_le _) h)]
  exact (Int.ofNat_sub (Nat.le_sub_one_of_lt h)).symm
theorem s45 {r q x : Nat} (h : max r q ≤ x) : r ≤ x := Nat.le_trans (Nat.le_max_left _ _) h
theorem s46 {r q x : Nat} (h : max r q ≤ x) : q ≤ x := Nat.le_trans (Nat.le_max_right _ _) h
theorem s47 {r q x : Nat} (h : x ≤ min r q) : x ≤ r := Nat.le_trans h (Nat.min_le_left _ _)
theorem s48 {r q x : Nat} (h : x ≤ min r q) : x ≤ q := Nat.le_trans h (Nat.min_le_right _ _)
theorem s50 {a b c k : Nat} (h : c ≤ b) : min a c - k ≤ b := Nat.le_trans (Nat.sub_le _ _) (Nat.le_trans (Nat.min_le_right _ _) h)
theorem s53 {lo i hi : Nat} (h : lo ≤ i) (k : i < hi) : lo + (i - lo) < hi := by rw [Nat.add_sub_cancel' h]; exact k
theorem s54 {p r : Nat} : p + r + 1 - p = r + 1 := by rw [Nat.add_assoc, Nat.add_sub_cancel_left]
theorem s55 {x : Nat} (h : x < 5) : x = 0 ∨ x = 1 ∨ x = 2 ∨ x = 3 ∨ x = 4 := match x, h with | 0, _ => .inl rfl | 1, _ => .inr (.inl rfl) | 2, _ => .inr (.inr (.inl rfl)) | 3, _ => .inr (.inr (.inr (.inl rfl))) | 4, _ => .inr (.inr (.inr (.inr rfl)))
theorem s56 {u : Nat} (h : u + 10 * 7 ≤ 9000) : u + 64 < 9900 := Nat.lt_of_le_of_lt (Nat.le_trans (Nat.add_le_add_left (by decide) u) h) (by decide)
theorem s58 {n : Nat} (h : n ≤ 1000) : ((n : Nat) : Int) < 2 ^ 63 := Int.lt_of_le_of_lt (Int.ofNat_le.mpr h) (by decide)
theorem s59 {n : Nat} (h : n ≤ 1000) : ((n : Nat) : Int) < 2 ^ 62 := Int.lt_of_le_of_lt (Int.ofNat_le.mpr h) (by decide)
theorem s60 {n : Nat} (h : n ≤ 1000) : ((n : Nat) : Int) < 9223372036854775808 := Int.lt_of_le_of_lt (Int.ofNat_le.mpr h) (by decide)
theorem s61 {i n : Nat} (k : i < n) (h : n ≤ 1000) : (i : Int) < 2 ^ 63 := Int.lt_of_le_of_lt (Int.ofNat_le.mpr (Nat.le_trans (Nat.le_of_lt k) h)) (by decide)
theorem s62 {x : Int} (h : 0 ≤ x) : max x 0 = x := Int.max_eq_left h
theorem s63 {x c : Int} (h : 0 ≤ x ∧ x < c) : x = (x.toNat : Int) := (Int.toNat_of_nonneg h.1).symm
theorem s64 {i n : Nat} (h : ¬ (i : Int) < 0) : max 0 (min (i : Int) (n : Int)) = ((min i n : Nat) : Int) := by
  rcases Nat.le_total i n with q | q
  · rw [Nat.min_eq_left q, Int.min_eq_left (Int.ofNat_le.mpr q)]; exact Int.max_eq_right (Int.natCast_nonneg _)
  · rw [Nat.min_eq_right q, Int.min_eq_right (Int.ofNat_le.mpr q)]; exact Int.max_eq_right (Int.natCast_nonneg _)
theorem s65 {sp : Nat} : max ((sp : Int) - 1) 0 = ((sp - 1 : Nat) : Int) := by cases sp with
  | zero => rfl
  | succ n => rw [s16 (Nat.succ_pos n), Int.max_eq_left (Int.natCast_nonneg _)]
theorem s66 {a b : Nat} : max (a : Int) (b : Int) = ((max a b : Nat) : Int) := by
  rcases Nat.le_total a b with q | q
  · rw [Nat.max_eq_right q]; exact Int.max_eq_right (Int.ofNat_le.mpr q)
  · rw [Nat.max_eq_left q]; exact Int.max_eq_left (Int.ofNat_le.mpr q)
theorem s67 {sp x : Nat} : min (sp + 1) x - (sp - 1) ≤ 100 := Nat.le_trans (Nat.sub_le_sub_right (Nat.min_le_left _ _) _) (by cases sp with
  | zero => decide
  | succ n => show n + 1 + 1 - n ≤ 100; rw [Nat.add_assoc, Nat.add_sub_cancel_left]; decide)
theorem s69 {a b n : Nat} (q : n - a = n - b) (h : a < b) (k : a < n) : False := Nat.ne_of_gt (Nat.sub_lt_sub_left k h) q
theorem s70 {p e k : Nat} (h : k + (e - p) ≤ e - 1) : e - p ≤ e - 1 - k := Nat.le_sub_of_add_le' h
theorem s71 {p e k : Nat} (h : p < e) (q : k < p) : k + (e - p) ≤ e - 1 := Nat.le_sub_one_of_lt (by rw [← Nat.add_sub_assoc (Nat.le_of_lt h)]; exact Nat.sub_lt_left_of_lt_add (Nat.le_trans (Nat.le_of_lt h) (Nat.le_add_left _ _)) (Nat.add_lt_add_right q e))
theorem s72 {f : Nat} : 1 ≤ min (1 + f % 5) 5 ∧ min (1 + f % 5) 5 ≤ 5 := ⟨Nat.le_min.mpr ⟨Nat.le_add_right 1 _, by decide⟩, Nat.min_le_right _ _⟩
theorem s73 {n : Int} : 0 ≤ n % 10 ∧ n % 10 < 10 := ⟨Int.emod_nonneg n (by decide), Int.emod_lt_of_pos n (by decide)⟩
theorem s74 {n i k x : Nat} (h : n = k + x) (a : i < n) (b : ¬ i < k) : i - k < x := Nat.sub_lt_left_of_lt_add (Nat.le_of_not_lt b) (h ▸ a)
theorem s75 {u v n : Nat} (h : u - v = n) (a : u ≤ n) (b : v ≤ n) : v = 0 := by
  rcases Nat.eq_zero_or_pos v with q | q
  · exact q
  · rcases Nat.lt_or_ge v u with k | k
    · exact absurd h (Nat.ne_of_lt (Nat.lt_of_lt_of_le (Nat.sub_lt (Nat.lt_trans q k) q) a))
    · rw [Nat.sub_eq_zero_of_le k] at h; exact Nat.le_zero.mp (h ▸ b)
theorem s78 {f : Nat} : 1 ≤ 1 + f % 3 ∧ 1 + f % 3 ≤ 3 := ⟨Nat.le_add_right 1 _, Nat.add_le_of_le_sub' (by decide) (Nat.le_of_lt_succ (Nat.mod_lt f (by decide)))⟩
theorem t1 {k : Nat} (h : 40 - k = 39 - k + 1) : k ≤ 39 := Nat.le_of_not_lt fun q => by rw [Nat.sub_eq_zero_of_le q] at h; cases h
theorem t2 {k : Nat} (h : 40 - k = 39 - k + 1) : 40 - (39 - k + 1) = k := by rw [← h]; exact Nat.sub_sub_self (Nat.le_succ_of_le (t1 h))
theorem t3 {k : Nat} (h : 40 - k = 39 - k + 1) : 39 - (39 - k + 1 - 1) = k := Nat.sub_sub_self (t1 h)
theorem t4 {k : Nat} (h : k < 16) : 0 < 39 - k + 1 - 1 := show 0 < 39 - k from Nat.sub_pos_of_lt (Nat.lt_of_lt_of_le h (by decide))
theorem t5 {k : Nat} (h : k = 0) : 0 < 39 - k + 1 - 1 ∧ 40 - k = 39 - k + 1 ∧ 40 = 39 - k + 1 := by rw [h]; decide
theorem t6 {a i n : Nat} : min a n - i ≤ n := Nat.le_trans (Nat.sub_le _ _) (Nat.min_le_right _ _)
theorem t7 {e p j : Nat} (h : e = p + 1 + j) : ((e - p : Nat) : Int) - 1 = (j : Int) := by rw [h, Nat.add_assoc, Nat.add_sub_cancel_left, s16 (Nat.le_add_right 1 j), Nat.add_sub_cancel_left]
theorem t8 {m n : Nat} (h : m + 1 ≤ n) : ((n : Int) - 1 + -1 * (m : Int)).toNat = n - 1 - m := by rw [Int.mul_comm, s44 h]; rfl
theorem t9 {m n : Nat} (h : m + 1 ≤ n) : n - 1 - m < n := s5 h
theorem t10 {e p j : Nat} (h : e = p + 1 + j) : (e : Int) - 1 = ((e - 1 : Nat) : Int) := s16 (h ▸ Nat.le_trans (Nat.le_add_left 1 p) (Nat.le_add_right _ j))
theorem t11 {n j r : Nat} (h : n - 1 - j + r ≤ n) (k : 1 ≤ r) (l : j < n) : r - 1 < j + 1 := Nat.lt_of_lt_of_le (Nat.sub_lt k Nat.one_pos) (by
  have := Nat.le_sub_of_add_le' h
  rw [Nat.sub_sub, Nat.sub_sub_self (Nat.add_comm j 1 ▸ l), Nat.add_comm] at this
  exact this)
theorem t12 {x q p n : Nat} (h : x = 256 + q) (k : q < p) (l : p < n) : 0 < x ∧ (256 ≤ x → x - 256 < min p n) := by
  subst h
  refine ⟨Nat.lt_of_lt_of_le (by decide) (Nat.le_add_right 256 q), fun _ => ?_⟩
  rw [Nat.add_sub_cancel_left]; exact Nat.lt_min.mpr ⟨k, Nat.lt_trans k l⟩
theorem t13 {b i : Nat} (h : b ≤ i) : min b i + (i - b + 1) = i + 1 := by rw [Nat.min_eq_left h, ← Nat.add_assoc, Nat.add_sub_cancel' h]
theorem t14 {n i : Nat} (h : ((n : Int) - 1 + (i : Int) * -1) = ((n - 1 - i : Nat) : Int)) : i < n := by omega
theorem t15 {n i p : Nat} (h : ((n : Int) - 1 + (i : Int) * -1) = ((n - 1 - i : Nat) : Int)) (k : p = n - 1 - i) : n + 1 - (p + 1) = i + 1 := by
  rw [k, Nat.add_sub_add_right, Nat.sub_sub, Nat.sub_sub_self (Nat.add_comm i 1 ▸ t14 h), Nat.add_comm]
theorem t16 {n i p j : Nat} (h : ((n : Int) - 1 + (i : Int) * -1) = ((n - 1 - i : Nat) : Int)) (k : p = n - 1 - i) (l : j < i + 1) : j < n + 1 - (p + 1) := t15 h k ▸ l
theorem t17 {e p j : Nat} (h : e = p + 1 + j) : (e : Int) - (p : Int) = ((e - p : Nat) : Int) := s17 (h ▸ Nat.le_add_right (p + 1) j)
theorem t18 {i n k : Nat} (h : i + (n + 1) = 40) (l : 39 - n ≤ k) : i + (k - i) = k := Nat.add_sub_cancel' (Nat.le_trans (Nat.le_sub_of_add_le (Nat.le_of_succ_le_succ (Nat.le_of_eq h))) l)
theorem t19 {c : Nat} : c - 2 ≤ c - 1 := Nat.sub_le_sub_left (by decide) c
theorem t20 {n k p r : Nat} (h : n = k + 1 + p) (l : 1 ≤ r) : n - k + (r - 1) = p + r := by rw [h, Nat.add_assoc, Nat.add_sub_cancel_left, Nat.add_comm 1 p, Nat.add_assoc, Nat.add_sub_cancel' l]
theorem t21 {x : Int} {i n : Nat} (h : x = (i : Int)) (k : i ≤ n) : min x.toNat n = i := by rw [h, Int.toNat_natCast, Nat.min_eq_left k]
theorem t22 {i : Nat} (h : i < 16) : 17 - (i + 1) < 17 - i := Nat.sub_succ_lt_self 17 i (Nat.lt_succ_of_lt h)
theorem t23 {u c x d : Nat} (k : d = 0) (h : u + 64 < c) : u + 1 + min x d < c := by rw [k, Nat.min_eq_right (Nat.zero_le _)]; exact Nat.lt_of_le_of_lt (Nat.add_le_add_left (by decide) u) h
theorem t24 {j c : Int} {n : Nat} (h : 0 < j ∧ j < c) (e : c = (n : Int)) : j.natAbs < n := Int.ofNat_lt.mp (by rw [Int.natAbs_of_nonneg (Int.le_of_lt h.1), ← e]; exact h.2)
theorem t25 {j c : Int} {n : Nat} (h : 0 ≤ j ∧ j ≤ c) (e : c = (n : Int)) : j.natAbs ≤ n := Int.ofNat_le.mp (by rw [Int.natAbs_of_nonneg h.1, ← e]; exact h.2)
theorem t26 {hi L T lo : Nat} (a : L = T) (b : T ≤ 60) : min hi L - lo < 64 := Nat.lt_of_le_of_lt t6 (Nat.lt_of_le_of_lt (a ▸ b) (by decide))
theorem t28 {k s c m : Nat} (h : k < s) (e : s = c) (l : c ≤ 5) : k - m < 16 := Nat.lt_of_le_of_lt (Nat.sub_le _ _) (Nat.lt_trans (Nat.lt_of_lt_of_le h (e ▸ l)) (by decide))
theorem t29 {s c : Nat} (h : 1 ≤ s ∧ s ≤ 5) (e : c = s) : 16 * (c - (c - 1)) ≤ 1000 := by subst e; rw [Nat.sub_sub_self h.1]; decide
theorem t30 {s c : Nat} (h : 1 ≤ s ∧ s ≤ 5) (e : c = s) : c - (c - 1) ≤ 1000 := by subst e; rw [Nat.sub_sub_self h.1]; decide
theorem t31 {s c : Nat} (h : 1 ≤ s ∧ s ≤ 5) (e : c = s) : c + 16 * (c - (c - 1)) ≤ 1000 := by subst e; rw [Nat.sub_sub_self h.1]; exact Nat.le_trans (Nat.add_le_add_right h.2 _) (by decide)
theorem t33 {i v p V : Nat} (e : v = V) (h : V ≤ 3 * i) (k : i < 5) : v - p ≤ 1000 := Nat.le_trans (Nat.sub_le _ _) (e ▸ Nat.le_trans h (Nat.le_trans (Nat.mul_le_mul_left 3 (Nat.le_of_lt k)) (by decide)))
theorem t35 {n p r e : Nat} (h : p + r ≤ n) (k : e ≤ n) : e + (p + r - e) ≤ n := by
  rcases Nat.le_total e (p + r) with q | q
  · rw [Nat.add_sub_cancel' q]; exact h
  · rw [Nat.sub_eq_zero_of_le q]; exact k
theorem t36 {x : Nat} (h : x = 1 ∨ x = 65 ∨ x = 97 ∨ x = 255) : 0 < x ∧ x < 256 := by rcases h with rfl | rfl | rfl | rfl <;> decide
theorem t37 {c z : Nat} (h : z = c + 1) : c + 1 - z = 0 := by rw [h, Nat.sub_self]
theorem t38 {k n l : Nat} (h : k < n) : k - l < n := Nat.lt_of_le_of_lt (Nat.sub_le _ _) h
theorem t39 {i z m n : Nat} {P : Prop} [Decidable (i + z < n ∧ P)] (h : true = decide (i + z < n ∧ P)) (e : z + m = n) : m = m - 1 + 1 := (Nat.sub_add_cancel (Nat.lt_of_add_lt_add_left (n := z) (by rw [e]; exact Nat.lt_of_le_of_lt (Nat.le_add_left z i) (of_decide_eq_true h.symm).1))).symm
theorem t40 {n i : Nat} (h : i + (n + 1) = 40) : 39 - n = i + 0 := Nat.sub_eq_of_eq_add (Nat.succ.inj h).symm
theorem t42 {n : Nat} (h : n ≤ 1000) : (-9223372036854775808 ≤ (n : Int) - 1 ∧ (n : Int) - 1 < 9223372036854775808) ∧ (n : Int) < 9223372036854775808 :=
  ⟨⟨Int.le_trans (by decide) (Int.sub_le_sub_right (Int.natCast_nonneg n) 1), Int.lt_of_le_of_lt (Int.sub_le_self _ (by decide)) (s60 h)⟩, s60 h⟩
theorem t43 {s n : Nat} (h : s < n) : s - 1 < n := Nat.lt_of_le_of_lt (Nat.sub_le _ _) h
theorem t44 {r m n d : Nat} (e : r + m = n + 1) (a : d = r + 1) (b : d ≤ n) : m = m - 1 + 1 := (Nat.sub_add_cancel (Nat.le_of_not_lt fun q => by
  rw [Nat.le_zero.mp (Nat.le_of_lt_succ q), Nat.add_zero] at e
  rw [a, e] at b
  exact Nat.not_succ_le_self n (Nat.le_of_succ_le b))).symm
theorem t48 {n p j : Nat} (h : p + (j + 1) ≤ n) : min p n + j = min (p + j) n := by
  rw [Nat.min_eq_left (Nat.le_trans (Nat.le_add_right _ _) h), Nat.min_eq_left (Nat.le_of_succ_le h : p + j ≤ n)]
theorem t49 {s : Nat} (h : 1 ≤ s ∧ s ≤ 5) : s - 1 < s := Nat.sub_lt h.1 Nat.one_pos
theorem t50 {n m : Nat} (h : ¬ (m : Int) < (n : Int)) : (0 : Int) = ((n - m : Nat) : Int) := by rw [Nat.sub_eq_zero_of_le (Nat.le_of_not_lt fun q => h (Int.ofNat_lt.mpr q))]; rfl
theorem t51 {x y a b : Nat} (h : x < y ∨ x = y ∧ b < a) (k : y < x ∨ y = x ∧ a < b) : False := by
  rcases h with h | ⟨h, h'⟩ <;> rcases k with k | ⟨k, k'⟩
  · exact Nat.lt_asymm h k
  · exact Nat.ne_of_lt h k.symm
  · exact Nat.ne_of_lt k h.symm
  · exact Nat.lt_asymm h' k'
theorem t52 {e n : Nat} (h : e ≤ n) : min (e - 1) n = e - 1 := Nat.min_eq_left (s1 h)
theorem t53 {k lo hi : Nat} (a : hi - lo ≤ 0) (b : lo ≤ k) (c : k ≤ hi) : lo = k := Nat.le_antisymm b (Nat.le_trans c (Nat.sub_eq_zero_iff_le.mp (Nat.le_zero.mp a)))
theorem t54 {x y b : Nat} {i : Nat} (h : ¬ x < y) (k : b < i) : y < x ∨ y = x ∧ b < i := (Nat.lt_or_eq_of_le (Nat.le_of_not_lt h)).imp_right fun q => ⟨q, k⟩
theorem t55 {a b : Nat} (h : min a b = a) : a ≤ b := h ▸ Nat.min_le_right a b
theorem t56 {x : Int} (h : -2 ^ 63 ≤ x) (k : x < 2 ^ 63) : -9223372036854775808 ≤ x ∧ x < 9223372036854775808 := ⟨h, k⟩
theorem t57 {x : Int} (h : ¬ x.toNat % 2 = 0) : ¬ max x 0 % 2 = 0 := fun q => h (by rw [← Int.toNat_eq_max] at q; exact_mod_cast q)
theorem t58 {x : Int} {i n : Nat} (h : x = (i : Int)) (k : i ≤ n) (l : n ≤ 1000) : -2 ^ 63 ≤ x ∧ x < 2 ^ 63 := h ▸ ⟨Int.le_trans (by decide) (Int.natCast_nonneg i), s58 (Nat.le_trans k l)⟩
theorem t59 {a s l t : Nat} (h : s ≤ l * t) (k : a ≤ t) : a + s ≤ l * t + t := Nat.add_comm a s ▸ Nat.add_le_add h k
theorem t60 {k n : Nat} (h : k ≤ n) : k = 0 ∨ 0 < n := (Nat.eq_zero_or_pos k).imp_right fun q => Nat.lt_of_lt_of_le q h
theorem t61 {q i z n : Nat} (h : q < i) (k : i + z < n) : q + z < n := Nat.lt_trans (Nat.add_lt_add_right h z) k
theorem t62 {L b n : Nat} (h : b < min L n) : b < L := Nat.lt_of_lt_of_le h (Nat.min_le_left _ _)
theorem t63 {L b n : Nat} (h : ¬ b < min L n) (k : b < L) : n ≤ b := Nat.le_of_not_lt fun q => h (Nat.lt_min.mpr ⟨k, q⟩)
theorem t64 {p z n : Nat} (h : min z (n - p) = z) (k : p < n) : p + z ≤ n := Nat.add_comm z p ▸ Nat.add_le_of_le_sub (Nat.le_of_lt k) (t55 h)
theorem t65 {n m : Nat} (h : (m : Int) < (n : Int)) : (n : Int) - (m : Int) = ((n - m : Nat) : Int) := s17 (Int.ofNat_lt.mp h)
theorem t66 {i x r : Nat} (e : x = r) (h : ¬ i < x) : r ≤ i := e ▸ Nat.le_of_not_lt h
theorem t67 {i x r : Nat} (e : x = r) (h : ¬ i < x) (k : i ≤ r) : x = i := Nat.le_antisymm (Nat.le_of_not_lt h) (e ▸ k)
theorem t68 {a b c : Nat} (h : decide (b < c) = true) (k : a < b) : a < c := Nat.lt_trans k (of_decide_eq_true h)
theorem t69 {a b c : Nat} (h : decide (b < c) = true) (k : a = b) : a < c := k ▸ of_decide_eq_true h
theorem t70 {f g e : Nat} (h : f ≤ 1 + g) (k : f = 1 + e) (l : g ≤ e) : f = 1 + g := Nat.le_antisymm h (k ▸ Nat.add_le_add_left l 1)
theorem t71 {n i p : Nat} (h : n ≤ 100) (k : p = n - 1 - i) : p + 1 ≤ 1000 := Nat.le_trans (Nat.succ_le_succ (k ▸ Nat.le_trans (Nat.sub_le _ _) (Nat.le_trans (Nat.sub_le _ _) h))) (by decide)
theorem t73 {i v : Nat} {P : Prop} [Decidable (i = 0 ∨ P)] (h : decide (i = 0 ∨ P) = false) (k : i ≤ v) : 0 < v := Nat.lt_of_lt_of_le (Nat.pos_of_ne_zero fun q => of_decide_eq_false h (.inl q)) k
theorem t74 {j k n : Nat} (h : ¬ j < k) (l : j < n) : k < n := Nat.lt_of_le_of_lt (Nat.le_of_not_lt h) l
theorem t75 {n p r : Nat} (h : 1 ≤ r) (k : p + r ≤ n) : 1 ≤ r ∧ r ≤ n := ⟨h, Nat.le_trans (Nat.le_add_left r p) k⟩
theorem t77 {n p m : Nat} (h : decide ((p : Int) < (n : Int)) = true) (k : n ≤ p + m) : m = m - 1 + 1 := (Nat.sub_add_cancel (Nat.lt_of_add_lt_add_left (Nat.lt_of_lt_of_le (s18 h : p + 0 < n) k))).symm
theorem t78 {m n u : Nat} (h : u + 10 * n ≤ 9000) (k : m ≤ n) : u + 10 * m ≤ 9000 := Nat.le_trans (Nat.add_le_add_left (Nat.mul_le_mul_left 10 k) u) h
theorem t79 {n u : Nat} (h : u + 10 * (n + 1) ≤ 9000) : u + 3 + 10 * n ≤ 9000 := Nat.le_trans (by rw [Nat.add_assoc, Nat.mul_succ, Nat.add_comm 3]; exact Nat.add_le_add_left (Nat.add_le_add_left (by decide) _) u) h
theorem t80 {k v : Nat} {P : Prop} (h : ¬ (k = 0 ∨ P)) (l : k = 0 ∨ 0 < v) : 0 < v := l.resolve_left fun q => h (.inl q)
theorem t81 {r s k : Nat} (h : r ≤ 16 * k) (l : s ≤ 16) : r + s ≤ 16 * (k + 1) := Nat.add_le_add h l
theorem t82 {p f r n : Nat} (h : n ≤ p + (f + 1)) (k : 1 ≤ r) : n ≤ p + r + f := Nat.le_trans h (by rw [Nat.add_assoc, Nat.add_comm f]; exact Nat.add_le_add_left (Nat.add_le_add_right k f) p)
theorem t83 {n p r f : Nat} (h : n ≤ p + r + (f + 1)) : n ≤ p + (r + 1) + f := by rw [← Nat.add_assoc, Nat.add_right_comm]; exact h
theorem t84 {n k p : Nat} (h : n = k + 1 + p) : p < n := h ▸ Nat.lt_of_lt_of_le (Nat.lt_succ_self p) (by rw [Nat.add_right_comm]; exact Nat.succ_le_succ (Nat.le_add_left p k))
noncomputable abbrev PR : Program := PySem.Challenge.rw_uc0002_01.row.prog
noncomputable abbrev KK (w : World) : Frag := hd.heap_39 w.params

structure Gnd (w : World) (mg mb : Str → Option Value) (B : Heap) : Prop where
  X : (KK w).In B
  T : ∃ p loose mean, Top p loose mean mg mb B
  C : CodeHd B 106 102
  no : B.get? 102 = none

noncomputable def lamPos : Pos := ⟨109, 11, 109, 59⟩
noncomputable def lamQual : Str := Str.ofString "_law_front.<locals>.<lambda>"

noncomputable def TabOk (h : Heap) : Prop :=
  h.get? 102 = some (tabObj #[]) ∨
  ∃ c o vs t, h.get? 102 = some (tabObj #[rawInt lamPos.line, rawInt lamPos.col, .ref c]) ∧ c ≠ 102 ∧ h.get? c = some o ∧ o.data = .fields vs ∧ vs[1]? = some (.str lamQual t)

noncomputable def Ext (X : List Addr) (h h' : Heap) : Prop := ∀ b o, b ≠ 102 → b ∉ X → h.get? b = some o → h'.get? b = some o

theorem Ext.refl (X : List Addr) (h : Heap) : Ext X h h := fun _ _ _ _ e => e
theorem Ext.trans {X : List Addr} {h h' h'' : Heap} (x : Ext X h h') (y : Ext X h' h'') : Ext X h h'' := fun b o hb hX e => y b o hb hX (x b o hb hX e)
theorem Ext.of_keeps {X : List Addr} {h h' : Heap} (k : ∀ b o, h.get? b = some o → h'.get? b = some o) : Ext X h h' := fun b o _ _ e => k b o e

noncomputable def put (x : Str) (v : Value) : List (Str × Value) → List (Str × Value)
  | [] => [(x, v)]
  | (y, u) :: r => if y = x then (y, v) :: r else (y, u) :: put x v r
theorem put_lookup (x : Str) (v : Value) (y : Str) : ∀ l : List (Str × Value), (put x v l).lookup y = if y = x then some v else l.lookup y
  | [] => by
    by_cases h : y = x
    · subst h; simp [put]
    · simp only [put, if_neg h, List.lookup_cons, List.lookup_nil, beq_eq_false_iff_ne.mpr h]
  | (z, u) :: r => by
    rewrite [put]
    by_cases hz : z = x
    · subst hz
      rw [if_pos rfl]
      by_cases h : y = z
      · subst h; simp
      · simp only [if_neg h, List.lookup_cons, beq_eq_false_iff_ne.mpr h]
    · rw [if_neg hz]
      by_cases h : y = z
      · subst h; simp [hz]
      · simp only [List.lookup_cons, beq_eq_false_iff_ne.mpr h]; exact put_lookup x v y r

noncomputable def Hard (o : Obj) : Prop := (∃ fd, o.data = .func fd) ∨ (∃ v, o.data = .cell v) ∨ ∃ vs c t, o.data = .fields vs ∧ vs[1]? = some (.str c t)
theorem hard_seq {o : Obj} {xs : Array Value} {n : Nat} (hd : o.data = .seq xs n) : ¬ Hard o := fun hh => by
  rcases hh with ⟨_, hh⟩ | ⟨_, hh⟩ | ⟨_, _, _, hh, _⟩ <;> (rw [hd] at hh; cases hh)
theorem hard_int {o : Obj} {vs : Array Value} {i : Int} {t : Tok} (hd : o.data = .fields vs) (h1 : vs[1]? = some (.int i t)) : ¬ Hard o := fun hh => by
  rcases hh with ⟨_, hh⟩ | ⟨_, hh⟩ | ⟨ws, c, t, hh, h2⟩
  · rw [hd] at hh; cases hh
  · rw [hd] at hh; cases hh
  · rw [hd] at hh; cases hh; rw [h1] at h2; cases h2
noncomputable def HardExt (h h' : Heap) : Prop := ∀ b o, b ≠ 102 → Hard o → h.get? b = some o → h'.get? b = some o
noncomputable def Kept (P : Heap → Prop) : Prop := ∀ h h', HardExt h h' → P h → P h'
noncomputable abbrev T0 : Heap → Prop := fun _ => True
theorem Kept.t0 : Kept T0 := fun _ _ _ _ => trivial

structure Hp (B hs : Heap) (L : Addr) (l : List (Str × Value)) (N : List (Addr × Obj)) (P : Heap → Prop) (h : Heap) : Prop where
  ns : ∃ m, h.Ns L m ∧ ∀ x v, l.lookup x = some v → m x = some v
  ext : Ext [] hs h
  hl : hs.objs.size ≤ L
  get : ∀ p ∈ N, h.get? p.1 = some p.2
  own : ∀ p ∈ N, hs.objs.size ≤ p.1 ∧ p.1 ≠ L
  ord : (N.map (·.1)).Pairwise (· > ·)
  base : ∀ b o, B.get? b = some o → h.get? b = some o
  no : B.get? 102 = none
  low : B.objs.size ≤ hs.objs.size
  L2 : 102 < hs.objs.size
  tab : TabOk h
  kept : Kept P
  fact : P h

section
variable {B hs h h' : Heap} {L : Addr} {l : List (Str × Value)} {N : List (Addr × Obj)} {P : Heap → Prop}

theorem TabOk.ext (t : TabOk h) {X : List Addr} (x : ∀ b o, b ∉ X → h.get? b = some o → h'.get? b = some o) (hX : 102 ∉ X) (hF : ∀ b ∈ X, ∀ o, h.get? b = some o → ¬ Hard o) : TabOk h' := by
  rcases t with t | ⟨c, o, vs, tk, e1, e2, e3, e4, e5⟩
  · exact .inl (x _ _ hX t)
  · exact .inr ⟨c, o, vs, tk, x _ _ hX e1, e2, x _ _ (fun hc => hF c hc o e3 (.inr (.inr ⟨vs, _, _, e4, e5⟩))) e3, e4, e5⟩

theorem Hp.fr (D : Hp B hs L l N P h) : ∃ m, Fr B L h m ∧ ∀ x v, l.lookup x = some v → m x = some v := let ⟨m, hn, k⟩ := D.ns; ⟨m, ⟨hn, D.base, Nat.le_trans D.low D.hl⟩, k⟩
theorem Hp.ltL (D : Hp B hs L l N P h) : L < h.objs.size := let ⟨_, hn, _⟩ := D.ns; hn.lt
theorem Hp.lt (D : Hp B hs L l N P h) {p : Addr × Obj} (hp : p ∈ N) : p.1 < h.objs.size := Heap.lt_size (D.get p hp)
theorem Hp.at (D : Hp B hs L l N P h) (i : Nat) {a : Addr} {o : Obj} (hi : N[i]? = some (a, o)) : h.get? a = some o := D.get (a, o) (List.mem_of_getElem? hi)
theorem Hp.n102 (D : Hp B hs L l N P h) {p : Addr × Obj} (hp : p ∈ N) : p.1 ≠ 102 := Nat.ne_of_gt (Nat.lt_of_lt_of_le D.L2 (D.own p hp).1)
theorem Hp.LL (D : Hp B hs L l N P h) : 102 < L := Nat.lt_of_lt_of_le D.L2 D.hl
theorem Hp.ownAt (D : Hp B hs L l N P h) (i : Nat) {a : Addr} {o : Obj} (hi : N[i]? = some (a, o)) : hs.objs.size ≤ a ∧ a ≠ L := D.own (a, o) (List.mem_of_getElem? hi)
theorem Hp.go (D : Hp B hs L l N P h) (x : Ext [] h h') (t : TabOk h') : Hp B hs L l N P h' where
  ns := let ⟨m, ⟨o, es, ep, e, r⟩, k⟩ := D.ns; ⟨m, ⟨o, es, ep, x _ _ (Nat.ne_of_gt D.LL) List.not_mem_nil e, r⟩, k⟩
  ext := D.ext.trans x
  hl := D.hl
  get := fun p hp => x _ _ (D.n102 hp) List.not_mem_nil (D.get p hp)
  own := D.own
  ord := D.ord
  base := fun b o e => x b o (fun q => by rw [q, D.no] at e; cases e) List.not_mem_nil (D.base b o e)
  no := D.no
  low := D.low
  L2 := D.L2
  tab := t
  kept := D.kept
  fact := D.kept _ _ (fun b o hb _ e => x b o hb List.not_mem_nil e) D.fact
theorem Hp.keeps (D : Hp B hs L l N P h) (k : ∀ b o, h.get? b = some o → h'.get? b = some o) : Hp B hs L l N P h' where
  ns := let ⟨m, hn, q⟩ := D.ns; ⟨m, hn.keeps k, q⟩
  ext := D.ext.trans (.of_keeps k)
  hl := D.hl
  get := fun p hp => k _ _ (D.get p hp)
  own := D.own
  ord := D.ord
  base := fun b o e => k _ _ (D.base b o e)
  no := D.no
  low := D.low
  L2 := D.L2
  tab := D.tab.ext (X := []) (fun b o _ e => k b o e) List.not_mem_nil fun _ hb => (nomatch hb)
  kept := D.kept
  fact := D.kept _ _ (fun b o _ _ e => k b o e) D.fact
theorem Hp.sub (D : Hp B hs L l N P h) {N' : List (Addr × Obj)} (s : N'.Sublist N) : Hp B hs L l N' P h :=
  { D with get := fun p hp => D.get p (s.subset hp), own := fun p hp => D.own p (s.subset hp), ord := D.ord.sublist (s.map _) }
theorem Hp.more (D : Hp B hs L l N P h) {a : Addr} {o : Obj} (hL : hs.objs.size ≤ a ∧ a ≠ L) (ha : ∀ p ∈ N, p.1 < a) (ho : h.get? a = some o) : Hp B hs L l ((a, o) :: N) P h :=
  { D with
    get := fun p hp => by rcases List.mem_cons.mp hp with rfl | hp; exact ho; exact D.get p hp
    own := fun p hp => by rcases List.mem_cons.mp hp with rfl | hp; exact hL; exact D.own p hp
    ord := List.Pairwise.cons (fun b hb => by obtain ⟨p, hp, rfl⟩ := List.mem_map.mp hb; exact ha p hp) D.ord }
theorem Hp.push (D : Hp B hs L l N P h) (o : Obj) (hf : o.isFreed = false) : Hp B hs L l ((h.objs.size, o) :: N) P (h.push o) :=
  (D.keeps fun _ _ e => Heap.get?_push_of_some o e).more ⟨Nat.le_trans D.hl (Nat.le_of_lt D.ltL), Nat.ne_of_gt D.ltL⟩ (fun _ hp => D.lt hp) (Heap.get?_push_size h hf)
theorem Hp.locals (D : Hp B hs L l N P h) {l' : List (Str × Value)} (hn : ∃ m, h'.Ns L m ∧ ∀ x v, l'.lookup x = some v → m x = some v) (s : Heap.SameBut L h h') : Hp B hs L l' N P h' where
  ns := hn
  ext := fun b o hb hX e => (s.2 b (fun q => absurd (Heap.lt_size e) (by rw [q]; exact Nat.not_lt.mpr D.hl))).trans (D.ext b o hb hX e)
  hl := D.hl
  get := fun p hp => (s.2 p.1 (D.own p hp).2).trans (D.get p hp)
  own := D.own
  ord := D.ord
  base := fun b o e => (s.2 b (fun q => absurd (Heap.lt_size e) (by rw [q]; exact Nat.not_lt.mpr (Nat.le_trans D.low D.hl)))).trans (D.base b o e)
  no := D.no
  low := D.low
  L2 := D.L2
  tab := by
    obtain ⟨_, ⟨oL, es, ep, e, hd, _⟩, _⟩ := D.ns
    exact D.tab.ext (X := [L]) (fun b o hb e => (s.2 b (fun q => hb (by rw [q]; exact .head _))).trans e) (fun q => Nat.ne_of_lt D.LL (List.mem_singleton.mp q))
      fun b hb o e' hh => by
        rw [List.mem_singleton.mp hb, e] at e'; cases e'
        rcases hh with ⟨_, hh⟩ | ⟨_, hh⟩ | ⟨_, _, _, hh, _⟩ <;> (rw [hd] at hh; cases hh)
  kept := D.kept
  fact := by
    obtain ⟨_, ⟨oL, es, ep, e, hd, _⟩, _⟩ := D.ns
    refine D.kept _ _ (fun b o _ hh e' => (s.2 b (fun q => ?_)).trans e') D.fact
    rw [q, e] at e'; cases e'
    rcases hh with ⟨_, hh⟩ | ⟨_, hh⟩ | ⟨_, _, _, hh, _⟩ <;> (rw [hd] at hh; cases hh)
theorem Hp.set (D : Hp B hs L l N P h) {m : Str → Option Value} (hm : ∀ x v, l.lookup x = some v → m x = some v) {x : Str} {v : Value} (hn : h'.Ns L (fun y => if y = x then some v else m y)) (s : Heap.SameBut L h h') : Hp B hs L (put x v l) N P h' :=
  D.locals ⟨_, hn, fun y u e => by
    rw [put_lookup] at e
    by_cases q : y = x
    · rw [if_pos q] at e ⊢; exact e
    · rw [if_neg q] at e ⊢; exact hm y u e⟩ s
theorem Hp.drop (D : Hp B hs L l N P h) {l' : List (Str × Value)} (hl : ∀ x v, l'.lookup x = some v → l.lookup x = some v) : Hp B hs L l' N P h :=
  { D with ns := let ⟨m, hn, q⟩ := D.ns; ⟨m, hn, fun x v e => q x v (hl x v e)⟩ }
theorem Hp.know (D : Hp B hs L l N P h) {P' : Heap → Prop} (k : Kept P') (f : P' h) : Hp B hs L l N P' h := { D with kept := k, fact := f }
theorem lookup_pre {l r : List (Str × Value)} (x : Str) (v : Value) (e : l.lookup x = some v) : (l ++ r).lookup x = some v := by
  rw [List.lookup_append, e]; rfl

theorem pw_split {N : List (Addr × Obj)} {i : Nat} {a : Addr} {o : Obj} (hi : N[i]? = some (a, o)) : N = N.take i ++ (a, o) :: N.drop (i + 1) := by
  obtain ⟨hl, he⟩ := List.getElem?_eq_some_iff.mp hi
  rw [← he, ← List.drop_eq_getElem_cons hl, List.take_append_drop]
theorem set_split {N : List (Addr × Obj)} {i : Nat} {a : Addr} {o o' : Obj} (hi : N[i]? = some (a, o)) : N.set i (a, o') = N.take i ++ (a, o') :: N.drop (i + 1) := by
  obtain ⟨hl, _⟩ := List.getElem?_eq_some_iff.mp hi
  exact List.set_eq_take_append_cons_drop.trans (if_pos hl)
theorem Hp.turnP (D : Hp B hs L l N P h) (i : Nat) {a : Addr} {o o' : Obj} (hi : N[i]? = some (a, o)) (hd : ∀ vs c t, o.data = .fields vs → vs[1]? ≠ some (.str c t)) (hP : P h')
    (s : ∀ b ob, b ≠ a → h.get? b = some ob → h'.get? b = some ob) (ha : h'.get? a = some o') : Hp B hs L l (N.set i (a, o')) P h' := by
  have hL := D.ownAt i hi
  have h102 : a ≠ 102 := Nat.ne_of_gt (Nat.lt_of_lt_of_le D.L2 hL.1)
  have sp := pw_split hi
  have hord := D.ord
  rw [sp, List.map_append, List.map_cons] at hord
  have p1 : ∀ p ∈ N.take i, p.1 ≠ a := fun p hp => Nat.ne_of_gt ((List.pairwise_append.mp hord).2.2 p.1 (List.mem_map_of_mem hp) a (.head _))
  have p2 : ∀ p ∈ N.drop (i + 1), p.1 ≠ a := fun p hp => Nat.ne_of_lt ((List.pairwise_cons.mp (List.pairwise_append.mp hord).2.1).1 p.1 (List.mem_map_of_mem hp))
  have back : ∀ p ∈ N.set i (a, o'), p = (a, o') ∨ (p ∈ N ∧ p.1 ≠ a) := fun p hp => by
    rw [set_split hi] at hp
    rcases List.mem_append.mp hp with hp | hp
    · exact .inr ⟨List.mem_of_mem_take hp, p1 p hp⟩
    · rcases List.mem_cons.mp hp with hp | hp
      · exact .inl hp
      · exact .inr ⟨List.mem_of_mem_drop hp, p2 p hp⟩
  refine ⟨?_, ?_, D.hl, ?_, ?_, ?_, ?_, D.no, D.low, D.L2, ?_, D.kept, hP⟩
  · obtain ⟨m, ⟨oL, es, ep, e, r⟩, k⟩ := D.ns
    exact ⟨m, ⟨oL, es, ep, s _ _ (Ne.symm hL.2) e, r⟩, k⟩
  · exact fun b ob hb hX e => s b ob (fun q => by
      have := Heap.lt_size e
      rw [q] at this
      exact absurd this (Nat.not_lt.mpr hL.1)) (D.ext b ob hb hX e)
  · intro p hp
    rcases back p hp with rfl | ⟨hp, hne⟩
    · exact ha
    · exact s _ _ hne (D.get p hp)
  · intro p hp
    rcases back p hp with rfl | ⟨hp, _⟩
    · exact hL
    · exact D.own p hp
  · rw [set_split hi, List.map_append, List.map_cons]; exact hord
  · exact fun b ob e => s b ob (fun q => by
      have := Nat.lt_of_lt_of_le (Heap.lt_size e) D.low
      rw [q] at this
      exact absurd this (Nat.not_lt.mpr hL.1)) (D.base b ob e)
  · rcases D.tab with t | ⟨c, oc, vs, tk, e1, e2, e3, e4, e5⟩
    · exact .inl (s _ _ (Ne.symm h102) t)
    · refine .inr ⟨c, oc, vs, tk, s _ _ (Ne.symm h102) e1, e2, s _ _ (fun q => ?_) e3, e4, e5⟩
      subst q
      have := D.at i hi
      rw [e3] at this
      cases this
      exact hd vs _ _ e4 e5
theorem Hp.turn (D : Hp B hs L l N P h) (i : Nat) {a : Addr} {o o' : Obj} (hi : N[i]? = some (a, o)) (hd : ¬ Hard o)
    (s : ∀ b ob, b ≠ a → h.get? b = some ob → h'.get? b = some ob) (ha : h'.get? a = some o') : Hp B hs L l (N.set i (a, o')) P h' :=
  D.turnP i hi (fun vs c t e1 e2 => hd (.inr (.inr ⟨vs, c, t, e1, e2⟩))) (D.kept _ _ (fun b ob _ hh e => s b ob (fun q => by
    subst q
    have := D.at i hi
    rw [e] at this
    cases this
    exact hd hh) e) D.fact) s ha

theorem Hp.other (D : Hp B hs L l N P h) {a : Addr} (hL : hs.objs.size ≤ a ∧ a ≠ L) (hN : ∀ p ∈ N, p.1 ≠ a) (hd : ∀ o, h.get? a = some o → ¬ Hard o) (s : ∀ b ob, b ≠ a → h.get? b = some ob → h'.get? b = some ob) : Hp B hs L l N P h' where
  ns := let ⟨m, ⟨o, es, ep, e, r⟩, k⟩ := D.ns; ⟨m, ⟨o, es, ep, s _ _ (Ne.symm hL.2) e, r⟩, k⟩
  ext := fun b ob hb hX e => s b ob (fun q => by
      have := Heap.lt_size e
      rw [q] at this
      exact absurd this (Nat.not_lt.mpr hL.1)) (D.ext b ob hb hX e)
  hl := D.hl
  get := fun p hp => s _ _ (hN p hp) (D.get p hp)
  own := D.own
  ord := D.ord
  base := fun b o e => s b o (fun q => by
      have := Nat.lt_of_lt_of_le (Heap.lt_size e) D.low
      rw [q] at this
      exact absurd this (Nat.not_lt.mpr hL.1)) (D.base b o e)
  no := D.no
  low := D.low
  L2 := D.L2
  tab := D.tab.ext (X := [a]) (fun b o hb e => s b o (fun q => hb (by rw [q]; exact .head _)) e) (fun q => Nat.ne_of_lt (Nat.lt_of_lt_of_le D.L2 hL.1) (List.mem_singleton.mp q)) fun b hb o e => by
    rw [List.mem_singleton.mp hb] at e; exact hd o e
  kept := D.kept
  fact := D.kept _ _ (fun b o _ hh e => s b o (fun q => by subst q; exact hd _ e hh) e) D.fact

structure Ok (B h : Heap) : Prop where
  base : ∀ b o, B.get? b = some o → h.get? b = some o
  no : B.get? 102 = none
  low : B.objs.size ≤ h.objs.size
  tab : TabOk h
theorem TabOk.lt (t : TabOk h) : 102 < h.objs.size := by
  rcases t with t | ⟨c, o, vs, tk, e1, _⟩
  · exact Heap.lt_size t
  · exact Heap.lt_size e1
theorem Hp.ok (D : Hp B hs L l N P h) : Ok B h := ⟨D.base, D.no, Nat.le_trans D.low (Nat.le_trans D.hl (Nat.le_of_lt D.ltL)), D.tab⟩
theorem Ok.act (O : Ok B h) {h₁ : Heap} (hn : h₁.Ns h.objs.size (fun x => l.lookup x)) (k : ∀ b o, h.get? b = some o → h₁.get? b = some o) : Hp B h h.objs.size l [] T0 h₁ :=
  ⟨⟨_, hn, fun _ _ e => e⟩, .of_keeps k, Nat.le_refl _, (fun _ hp => nomatch hp), (fun _ hp => nomatch hp), List.Pairwise.nil, fun b o e => k b o (O.base b o e), O.no, O.low, O.tab.lt, O.tab.ext (X := []) (fun b o _ e => k b o e) List.not_mem_nil fun _ hb => (nomatch hb), Kept.t0, trivial⟩
end

structure Like (s s' : Shared) : Prop where
  os : s'.os = s.os
  gens : AllBare s.gens → AllBare s'.gens
  kg : ∀ (i : Nat) (g : GenState), s.gens[i]? = some g → s'.gens[i]? = some g
theorem Like.refl (s : Shared) : Like s s := ⟨rfl, id, fun _ _ e => e⟩
theorem Like.trans {s s' s'' : Shared} (x : Like s s') (y : Like s' s'') : Like s s'' := ⟨y.os.trans x.os, fun g => y.gens (x.gens g), fun i g e => y.kg i g (x.kg i g e)⟩

structure Aft (s s' : Shared) : Prop where
  like : Like s s'
  ext : Ext [] s.heap s'.heap
  tab : TabOk s'.heap

structure Act (B : Heap) (s₀ : Shared) (L : Addr) (l : List (Str × Value)) (N : List (Addr × Obj)) (P : Heap → Prop) (s : Shared) : Prop where
  hp : Hp B s₀.heap L l N P s.heap
  like : Like s₀ s
section
variable {B : Heap} {L : Addr} {l : List (Str × Value)} {N : List (Addr × Obj)} {P : Heap → Prop} {s₀ s s' : Shared}
theorem Act.tok (D : Act B s₀ L l N P s) (t : Nat) : Act B s₀ L l N P { s with toks := t } := ⟨D.hp, D.like.os, D.like.gens, D.like.kg⟩
theorem Act.to (D : Act B s₀ L l N P s) {l' : List (Str × Value)} {N' : List (Addr × Obj)} {h' : Heap} (H : Hp B s₀.heap L l' N' P h') (t : Nat) : Act B s₀ L l' N' P { s with heap := h', toks := t } := ⟨H, D.like.os, D.like.gens, D.like.kg⟩
theorem Act.to' (D : Act B s₀ L l N P s) {l' : List (Str × Value)} {N' : List (Addr × Obj)} {h' : Heap} (H : Hp B s₀.heap L l' N' P h') : Act B s₀ L l' N' P { s with heap := h' } := ⟨H, D.like.os, D.like.gens, D.like.kg⟩
theorem Act.aft (D : Act B s₀ L l N P s) (x : Aft s s') : Act B s₀ L l N P s' := ⟨D.hp.go x.ext x.tab, D.like.trans x.like⟩
theorem Act.done (D : Act B s₀ L l N P s) : Aft s₀ s := ⟨D.like, D.hp.ext, D.hp.tab⟩
theorem Act.sub (D : Act B s₀ L l N P s) {N' : List (Addr × Obj)} (h : N'.Sublist N) : Act B s₀ L l N' P s := ⟨D.hp.sub h, D.like⟩
theorem Act.ok (D : Act B s₀ L l N P s) : Ok B s.heap := D.hp.ok
theorem Act.drop (D : Act B s₀ L l N P s) {l' : List (Str × Value)} (hl : ∀ x v, l'.lookup x = some v → l.lookup x = some v) : Act B s₀ L l' N P s := ⟨D.hp.drop hl, D.like⟩
theorem Act.pre {r : List (Str × Value)} (D : Act B s₀ L (l ++ r) N P s) : Act B s₀ L l N P s := D.drop fun x v e => lookup_pre x v e
theorem Act.know (D : Act B s₀ L l N P s) {P' : Heap → Prop} (k : Kept P') (f : P' s.heap) : Act B s₀ L l N P' s := ⟨D.hp.know k f, D.like⟩
theorem Act.fact (D : Act B s₀ L l N P s) : P s.heap := D.hp.fact
theorem Act.at (D : Act B s₀ L l N P s) (i : Nat) {a : Addr} {o : Obj} (hi : N[i]? = some (a, o)) : s.heap.get? a = some o := D.hp.at i hi
end

structure Room (n : Nat) (A : Around) : Prop where
  hh : A.handled = none
  dp : A.depth + n ≤ 900
  un : A.units + 10 * n ≤ 9000
theorem Room.deeper {n : Nat} {A : Around} (r : Room (n + 1) A) (env : Env) : Room n (A.deeper env) := ⟨r.hh, by have := r.dp; show A.depth + 1 + n ≤ 900; first | lia | omega, by have := r.un; show A.units + 3 + 10 * n ≤ 9000; first | with_reducible exact t79 ‹_› | lia | omega⟩
theorem Room.weak {n m : Nat} {A : Around} (r : Room n A) (h : m ≤ n) : Room m A := ⟨r.hh, by have := r.dp; first | lia | omega, by have := r.un; first | with_reducible exact t78 ‹_› ‹_› | lia | omega⟩
theorem Room.room {n : Nat} {A : Around} (r : Room n A) : A.depth < recursionLimit := by have := r.dp; show A.depth < 1000; first | lia | omega

noncomputable abbrev FnIs (a : Addr) (fd : FuncData) : Prop := ∀ w, (KK w).lookup a = some ⟨.type "function", none, .func fd, #[]⟩
noncomputable def F21 : {fd : FuncData // FnIs 21 fd} := ⟨_, fun _ => rfl⟩
noncomputable def F28 : {fd : FuncData // FnIs 28 fd} := ⟨_, fun _ => rfl⟩
noncomputable def F35 : {fd : FuncData // FnIs 35 fd} := ⟨_, fun _ => rfl⟩
noncomputable def F44 : {fd : FuncData // FnIs 44 fd} := ⟨_, fun _ => rfl⟩
noncomputable def F53 : {fd : FuncData // FnIs 53 fd} := ⟨_, fun _ => rfl⟩
noncomputable def F62 : {fd : FuncData // FnIs 62 fd} := ⟨_, fun _ => rfl⟩
noncomputable def F69 : {fd : FuncData // FnIs 69 fd} := ⟨_, fun _ => rfl⟩
noncomputable def F76 : {fd : FuncData // FnIs 76 fd} := ⟨_, fun _ => rfl⟩
noncomputable def F83 : {fd : FuncData // FnIs 83 fd} := ⟨_, fun _ => rfl⟩
noncomputable def F88 : {fd : FuncData // FnIs 88 fd} := ⟨_, fun _ => rfl⟩
noncomputable def F93 : {fd : FuncData // FnIs 93 fd} := ⟨_, fun _ => rfl⟩
noncomputable def F100 : {fd : FuncData // FnIs 100 fd} := ⟨_, fun _ => rfl⟩
noncomputable def F107 : {fd : FuncData // FnIs 107 fd} := ⟨_, fun _ => rfl⟩
noncomputable def F114 : {fd : FuncData // FnIs 114 fd} := ⟨_, fun _ => rfl⟩
noncomputable def F121 : {fd : FuncData // FnIs 121 fd} := ⟨_, fun _ => rfl⟩
noncomputable def F126 : {fd : FuncData // FnIs 126 fd} := ⟨_, fun _ => rfl⟩

section
variable {w : World} {mg mb : Str → Option Value} {B : Heap} {A : Around} {s₀ s : Shared} {R : Result → Shared → Prop} {E : Value → Shared → Prop} {L a : Addr} {l : List (Str × Value)} {N : List (Addr × Obj)} {P : Heap → Prop}
  {env : Env}

noncomputable abbrev fenv (fd : FuncData) (f L : Addr) : Env := envX fd.qualname fd.scope L f fd.code fd.closure
noncomputable abbrev fenvC (fd : FuncData) (f L : Addr) : Env := envX fd.qualname fd.scope L f fd.code (cellsFrom (L + 1) fd.scope.names [])
theorem enter {fd : FuncData} {body : List Stmt} {f : Addr} {args : Args} {binds : List (Str × Value)} {oc : Value} {od : Option Addr} {osl : Array (Option Value)} (G : Gnd w mg mb B) (O : Ok B s.heap) {n : Nat} (r : Room (n + 1) A)
    (ho : (KK w).lookup f = some ⟨oc, od, .func fd, osl⟩) (hcd : codeIn (KK w) fd.code fd.qualname = true) (hbody : fd.body = .stmts body) (hbind : BindsTo s fd args binds)
    (hcell : ∀ x ∈ fd.scope.names, x.2 ≠ .cell) (hloc : ∀ x ∈ binds, fd.scope.names.lookup x.1 = some .local)
    (h : ∀ A' s₁, Act B s s.heap.objs.size binds.reverse [] T0 s₁ → Room n A' →
      wpAny (model PR w) A' (execs body (fenv fd f s.heap.objs.size)) (fun fl s' => R (.ok (.ret (match fl with | .ret v => v | _ => .none))) s') (fun _ _ => False) s₁)
    (hg : fd.globals = mainGlobals := by rfl) (hb : fd.builtins = builtinsNs := by rfl)
    (hco : fd.scope.isCoroutine = false := by rfl) (hgen : fd.scope.isGenerator = false := by rfl) (hk : fd.scope.kind = .function := by rfl) :
    codeAny (model PR w) A (.call (.ref f) args) R s := by
  obtain ⟨p, loose, mean, T⟩ := G.T
  have he : ∀ L, callEnv fd L f = envX fd.qualname fd.scope L f fd.code fd.closure := fun L => by unfold callEnv newEnv envX; rw [hg, hb]
  refine codeAny_call_def (o := ⟨oc, od, .func fd, osl⟩) r.room (O.base _ _ (G.X _ _ ho)) rfl (T.nolimit.keeps O.base) ((codeRec_of G.X hcd).keeps O.base) hbody hbind hcell hloc
    (fun h₁ hn k => ?_) hco hgen hk
  rw [he]
  exact wpAny_mono (h _ _ ⟨O.act hn k, rfl, id, fun _ _ e => e⟩ (r.deeper _)) (fun _ _ x => x) fun _ _ x => x.elim

/- names -/
theorem nmL {x : Str} {p : Pos} {v : Value} {Q : Value → Shared → Prop} (D : Act B s₀ L l N P s) (hv : l.lookup x = some v) (h : Q v s)
    (hk : env.scope.kind = .function := by rfl) (hx : env.kindOf x = some .local := by rfl) (hd : (x == ("__debug__" : Str)) = false := by rfl) (hL : env.locals = L := by rfl) :
    wpAny (model PR w) A (eval (.Name x p) env) Q E s := by
  obtain ⟨m, F, k⟩ := D.hp.fr
  subst hL
  exact wpAny_Name (wpAny_loadName_local hk hx F.ns (k _ _ hv) h) hd
noncomputable def okNm (env : Env) (x : Str) : Bool := env.scope.kind == .function && (env.kindOf x == some .local && !(x == ("__debug__" : Str)))
theorem nmQ {x : Str} {p : Pos} {v : Value} {Q : Value → Shared → Prop} (D : Act B s₀ L l N P s) (hv : l.lookup x = some v) (h : Q v s) (ho : okNm env x = true) (hL : env.locals = L) :
    wpAny (model PR w) A (eval (.Name x p) env) Q E s := by
  unfold okNm at ho
  rw [Bool.and_eq_true, Bool.and_eq_true, beq_iff_eq, beq_iff_eq, Bool.not_eq_true'] at ho
  exact nmL D hv h ho.1 ho.2.1 ho.2.2 hL
theorem ldL {x : Str} {v : Value} {Q : Value → Shared → Prop} (D : Act B s₀ L l N P s) (hv : l.lookup x = some v) (h : Q v s)
    (hk : env.scope.kind = .function := by rfl) (hx : env.kindOf x = some .local := by rfl) (hL : env.locals = L := by rfl) :
    wpAny (model PR w) A (loadName env x) Q E s := by
  obtain ⟨m, F, k⟩ := D.hp.fr
  subst hL
  exact wpAny_loadName_local hk hx F.ns (k _ _ hv) h
theorem nmG {x : Str} {p : Pos} {v : Value} {Q : Value → Shared → Prop} (G : Gnd w mg mb B) (D : Act B s₀ L l N P s) (e : nsIn (KK w) mainGlobals x = some (some v)) (h : Q v s)
    (hk : env.scope.kind = .function := by rfl) (hx : env.kindOf x = some .globalImplicit := by rfl) (hd : (x == ("__debug__" : Str)) = false := by rfl) (hg : env.globals = mainGlobals := by rfl) :
    wpAny (model PR w) A (eval (.Name x p) env) Q E s := by
  obtain ⟨_, _, _, T⟩ := G.T
  obtain ⟨_, F, _⟩ := D.hp.fr
  have g := (topRead_of T).g.keeps F.keep
  rw [← hg] at g
  exact Name_function_global hk hx (loadGlobal_global g (mg_of G.X (topRead_of T).g e) h) hd
theorem nmB {x : Str} {p : Pos} {v : Value} {Q : Value → Shared → Prop} (G : Gnd w mg mb B) (D : Act B s₀ L l N P s) (e : nsIn (KK w) mainGlobals x = some none) (hv : bootBuiltins x = some v) (hn : (x == ("__name__" : Str)) = false) (h : Q v s)
    (hk : env.scope.kind = .function := by rfl) (hx : env.kindOf x = some .globalImplicit := by rfl) (hd : (x == ("__debug__" : Str)) = false := by rfl) (hg : env.globals = mainGlobals := by rfl) (hb : env.builtins = builtinsNs := by rfl) :
    wpAny (model PR w) A (eval (.Name x p) env) Q E s := by
  obtain ⟨_, _, _, T⟩ := G.T
  obtain ⟨_, F, _⟩ := D.hp.fr
  have T' := topRead_of T
  have g := T'.g.keeps F.keep
  have b := T'.b.keeps F.keep
  rw [← hg] at g
  rw [← hb] at b
  exact Name_function_global hk hx (loadGlobal_builtin g (mg_none_of G.X T'.g e) b ((T'.builtins x (beq_eq_false_iff_ne.mp hn)).trans hv) h) hd
theorem nmC {x : Str} {p : Pos} {v : Value} {c : Addr} {Q : Value → Shared → Prop} (hv : s.heap.IsCell c (some v)) (hc : env.cells.lookup x = some c) (h : Q v s)
    (hk : env.scope.kind = .function := by rfl) (hx : env.kindOf x = some .cell := by rfl) (hd : (x == ("__debug__" : Str)) = false := by rfl) :
    wpAny (model PR w) A (eval (.Name x p) env) Q E s := wpAny_Name (wpAny_loadName_cell hk hx hc hv h) hd
/- a local is stored -/
theorem stL {x : Str} {v : Value} {Q : Unit → Shared → Prop} (D : Act B s₀ L l N P s)
    (h : ∀ s', Act B s₀ L (put x v l) N P s' → Q () s')
    (hk : env.scope.kind = .function := by rfl) (hx : env.kindOf x = some .local := by rfl) (hL : env.locals = L := by rfl) :
    wpAny (model PR w) A (storeName env x v) Q E s := by
  obtain ⟨m, F, k⟩ := D.hp.fr
  subst hL
  exact wpAny_storeName_local hx F.ns (fun h' hn hs => h _ (D.to (D.hp.set k hn hs) _)) (by rw [hk]; rfl)
end

section
variable {M : Model} {A : Around} {E : Value → Shared → Prop} {s : Shared} {env : Env} {Q : Flow → Shared → Prop} {rest : List Stmt}
theorem x_nil (h : Q .next s) : wpAny M A (execs [] env) Q E s := wpAny_execs_nil h
theorem x_assign {x p value pos} (h : wpAny M A (eval value env) (fun v s₁ => wpAny M A (storeName env x v) (fun _ s₂ => wpAny M A (execs rest env) Q E s₂) E s₁) E s)
    (hs : swapsWith value (some (.Name x p)) pos.line env = pure false := by rfl) : wpAny M A (execs (.Assign [.Name x p] value pos :: rest) env) Q E s :=
  wpAny_execs_cons (wpAny_Assign_Name h hs)
theorem x_assignK {x p value pos} (h : ∀ K : Value → Shared → Prop, (∀ v s₁, wpAny M A (storeName env x v) (fun _ s₂ => wpAny M A (execs rest env) Q E s₂) E s₁ → K v s₁) → wpAny M A (eval value env) K E s)
    (hs : swapsWith value (some (.Name x p)) pos.line env = pure false := by rfl) : wpAny M A (execs (.Assign [.Name x p] value pos :: rest) env) Q E s := x_assign (h _ fun _ _ x => x) hs
theorem x_aug {x p op value pos} (h : wpAny M A (loadName env x) (fun old s₁ => wpAny M A (eval value env) (fun v s₂ => wpAny M A (inplaceOp op old v)
      (fun r s₃ => wpAny M A (storeName env x r) (fun _ s₄ => wpAny M A (execs rest env) Q E s₄) E s₃) E s₂) E s₁) E s) : wpAny M A (execs (.AugAssign (.Name x p) op value pos :: rest) env) Q E s :=
  wpAny_execs_cons (wpAny_AugAssign_Name h)
theorem x_ret {e pos} (h : wpAny M A (eval e env) (fun v s₁ => Q (.ret v) s₁) E s) : wpAny M A (execs (.Return (some e) pos :: rest) env) Q E s :=
  wpAny_execs_cons (wpAny_Return_some h)
theorem x_retN {pos} (h : Q (.ret .none) s) : wpAny M A (execs (.Return none pos :: rest) env) Q E s :=
  wpAny_execs_cons (wpAny_Return_none h)
noncomputable def nxt (M : Model) (A : Around) (env : Env) (rest : List Stmt) (Q : Flow → Shared → Prop) (E : Value → Shared → Prop) (f : Flow) (s : Shared) : Prop := match f with
  | .next => wpAny M A (execs rest env) Q E s
  | f => Q f s
theorem x_cons {st} (h : wpAny M A (exec st env) (nxt M A env rest Q E) E s) : wpAny M A (execs (st :: rest) env) Q E s :=
  wpAny_execs_cons (wpAny_mono h (fun f s' h' => by cases f <;> exact h') fun _ _ x => x)
theorem x_if {test body orelse pos} (h : wpAny M A (isTrue test env (eval test env)) (fun b s₁ => (b = true → wpAny M A (execs body env) (nxt M A env rest Q E) E s₁) ∧ (b = false → wpAny M A (execs orelse env) (nxt M A env rest Q E) E s₁)) E s) :
    wpAny M A (execs (.If test body orelse pos :: rest) env) Q E s := by
  refine x_cons ?_
  rw [exec_If]
  refine wpAny_bind (wpAny_standAt (wpAny_bind (wpAny_mono h (fun b s₁ h₁ => ?_) fun _ _ x => x)))
  cases b with
  | true => exact h₁.1 rfl
  | false => exact h₁.2 rfl
theorem x_ifK {test body orelse pos} (h : ∀ K : Bool → Shared → Prop, (∀ b s₁, ((b = true → wpAny M A (execs body env) (nxt M A env rest Q E) E s₁) ∧ (b = false → wpAny M A (execs orelse env) (nxt M A env rest Q E) E s₁)) → K b s₁) → wpAny M A (isTrue test env (eval test env)) K E s) :
    wpAny M A (execs (.If test body orelse pos :: rest) env) Q E s := x_if (h _ fun _ _ x => x)
theorem e_bool {b k pos} {Q : Value → Shared → Prop} (h : Q (.bool b) s) : wpAny M A (eval (.Constant (.bool b) k pos) env) Q E s := wpAny_pure h
theorem e_none {k pos} {Q : Value → Shared → Prop} (h : Q .none s) : wpAny M A (eval (.Constant .none k pos) env) Q E s := wpAny_pure h
end

section
variable {w : World} {B : Heap} {A : Around} {E : Value → Shared → Prop} {s₀ s : Shared} {L : Addr} {l : List (Str × Value)} {N : List (Addr × Obj)} {P : Heap → Prop} {Q : Value → Shared → Prop} {env : Env} {i j : Int} {t u : Tok}
theorem e_int {k pos} (D : Act B s₀ L l N P s) (h : ∀ s' t, Act B s₀ L l N P s' → Q (.int i t) s') : wpAny (model PR w) A (eval (.Constant (.int i) k pos) env) Q E s := wpAny_Constant_int (h _ _ (D.tok _))
theorem e_str {x : Str} {k pos} (D : Act B s₀ L l N P s) (h : ∀ s' t, Act B s₀ L l N P s' → Q (.str x t) s') : wpAny (model PR w) A (eval (.Constant (.str x) k pos) env) Q E s := wpAny_mkText (h _ _ (D.tok _))
theorem o_add (D : Act B s₀ L l N P s) (h : ∀ s' t, Act B s₀ L l N P s' → Q (.int (i + j) t) s') : wpAny (model PR w) A (binaryOp .Add (.int i t) (.int j u)) Q E s := PyProof.Rows.add_int (h _ _ (D.tok _))
theorem o_sub (D : Act B s₀ L l N P s) (h : ∀ s' t, Act B s₀ L l N P s' → Q (.int (i - j) t) s') : wpAny (model PR w) A (binaryOp .Sub (.int i t) (.int j u)) Q E s := PyProof.Rows.sub_int (h _ _ (D.tok _))
theorem o_fdiv (hj : 0 < j ∧ j < 1073741824) (D : Act B s₀ L l N P s) (h : ∀ s' t, Act B s₀ L l N P s' → Q (.int (i.fdiv j) t) s') : wpAny (model PR w) A (binaryOp .FloorDiv (.int i t) (.int j u)) Q E s :=
  PyProof.Rows.floordiv_int (by first | decide | assumption | exact a1 ‹_› | exact a2 ‹_› | exact a3 ‹_› (by decide) | exact dl ‹_› | exact ee ‹_› ‹_› | lia | omega) (h _ _ (D.tok _)) (.inl (PyProof.noPylong_small (by first | exact t24 ‹_› rfl | lia | omega)))
theorem o_mod (hj : 0 < j) (D : Act B s₀ L l N P s) (h : ∀ s' t, Act B s₀ L l N P s' → Q (.int (i.fmod j) t) s') : wpAny (model PR w) A (binaryOp .Mod (.int i t) (.int j u)) Q E s := PyProof.Rows.mod_int (by first | decide | assumption | exact a1 ‹_› | exact a2 ‹_› | exact a3 ‹_› (by decide) | exact dl ‹_› | exact ee ‹_› ‹_› | lia | omega) (h _ _ (D.tok _))
theorem o_lt (h : Q (.bool (decide (i < j))) s) : wpAny (model PR w) A (compareOp .Lt (.int i t) (.int j u)) Q E s := PyProof.Rows.lt_int h
theorem o_ge (h : Q (.bool (decide (j ≤ i))) s) : wpAny (model PR w) A (compareOp .GtE (.int i t) (.int j u)) Q E s := PyProof.Rows.ge_int h
theorem o_eq (h : Q (.bool (i == j)) s) : wpAny (model PR w) A (compareOp .Eq (.int i t) (.int j u)) Q E s := PyProof.Rows.eq_int h
theorem o_ne (h : Q (.bool (i != j)) s) : wpAny (model PR w) A (compareOp .NotEq (.int i t) (.int j u)) Q E s := PyProof.Rows.ne_int h
end
noncomputable def pyFig (n : Int) (p : Nat) : Int := (n.fdiv (10 ^ p)).fmod 10
section
variable {w : World} {mg mb : Str → Option Value} {B : Heap} {A : Around} {s : Shared} {R : Result → Shared → Prop}
theorem pow10 : ∀ p : Nat, p < 10 → (0 : Int) < 10 ^ p ∧ (10 : Int) ^ p < 1073741824 := by decide +kernel
theorem cd83 : codeIn (KK w) F83.1.code F83.1.qualname = true := by kernel_rfl
theorem figure_spec (G : Gnd w mg mb B) (O : Ok B s.heap) (r : Room 1 A) (n : Int) (p : Nat) (hp : p < 10) {tn tp : Tok} (k : ∀ s' t, Aft s s' → R (.ok (.ret (.int (pyFig n p) t))) s') :
    codeAny (model PR w) A (.call (.ref 83) ⟨[.int n tn, .int p tp], []⟩) R s := by
  refine enter (fd := F83.1) (binds := [(Str.ofString "number", .int n tn), (Str.ofString "place", .int p tp)]) G O r (F83.2 w) cd83 rfl (BindsTo.of_eq (by rfl)) (by decide) (locs rfl) ?_
  intro A s₁ D r
  have hb : (0 : Int) < 10 ^ p ∧ (10 : Int) ^ p < 1073741824 := pow10 p hp
  refine x_ret ?_
  (with_reducible refine wpAny_BinOp ?_)
  (with_reducible refine wpAny_BinOp ?_)
  ((with_reducible refine' nmQ ?D ?v ?_ ?o ?L); (case L => exact rfl); (case o => exact Eq.refl true); (case D => assumption); (case v => exact rfl))
  (with_reducible refine wpAny_BinOp ?_)
  ((with_reducible refine' e_int ?D ?_); (case D => assumption); intro _ _ _)
  ((with_reducible refine' nmQ ?D ?v ?_ ?o ?L); (case L => exact rfl); (case o => exact Eq.refl true); (case D => assumption); (case v => exact rfl))
  refine pow_int (by first | decide | assumption | exact a1 ‹_› | exact a2 ‹_› | exact a3 ‹_› (by decide) | exact dl ‹_› | exact ee ‹_› ‹_› | lia | omega) (by show (4 : Int) * (p : Int) ≤ 2 ^ 27; first | lia | omega) ?_
  rw [Int.toNat_natCast]
  refine o_fdiv hb (Act.tok (by assumption) _) ?_
  intro s t D
  ((with_reducible refine' e_int ?D ?_); (case D => assumption); intro _ _ _)
  ((with_reducible refine' o_mod ?j ?D ?_); (case j => first | decide | omega); (case D => assumption); intro _ _ _)
  exact k _ _ (Act.done (by assumption))
end
section
variable {w : World} {mg mb : Str → Option Value} {B : Heap} {A : Around} {s₀ s : Shared} {L : Addr} {l : List (Str × Value)} {N : List (Addr × Obj)} {P : Heap → Prop} {env : Env} {pos : Pos}
noncomputable abbrev no : Value → Shared → Prop := fun _ _ => False
noncomputable abbrev ResQ (Q : Value → Shared → Prop) : Result → Shared → Prop := fun r s' => match r with | .ok (.ret v) => Q v s' | .ok _ => False | .error _ => False
theorem call_of {f : Value} {vs : List Value} {kw : List (Str × Value)} {Q : Value → Shared → Prop} (h : codeAny (model PR w) A (.call f ⟨vs, kw⟩) (ResQ Q) s) : wpAny (model PR w) A (call f vs kw) Q no s :=
  wpAny_call h
theorem sp_nil {Q : List Value → Shared → Prop} (h : Q [] s) : wpAny (model PR w) A (spliced (backTo pos (starEach [] env))) Q no s := spliced_nil h
theorem sp_cons {e : Expr} {rest : List Expr} {Q : List Value → Shared → Prop} (h : wpAny (model PR w) A (eval e env) (fun v s₁ => wpAny (model PR w) A (spliced (backTo pos (starEach rest env))) (fun vs s₂ => Q (v :: vs) s₂) no s₁) no s)
    (he : starEach (e :: rest) env = (false, eval e env) :: starEach rest env := by rfl) : wpAny (model PR w) A (spliced (backTo pos (starEach (e :: rest) env))) Q no s := by
  rw [he]; exact spliced_cons h
theorem c_fn {f : Addr} {fd : FuncData} {e : Expr} {rest : List Expr} {Q : Value → Shared → Prop} (G : Gnd w mg mb B) (ho : FnIs f fd)
    (h : wpAny (model PR w) A (spliced (backTo pos (starEach (e :: rest) env))) (fun vs s₁ => Ok B s₁.heap ∧ codeAny (model PR w) A (.call (.ref f) ⟨vs, []⟩) (ResQ Q) s₁) no s)
    (he : starEach (e :: rest) env = (false, eval e env) :: starEach rest env := by rfl) :
    wpAny (model PR w) A (callWith pos (.ref f) [] (backTo pos (starEach (e :: rest) env)) []) Q no s := by
  rw [he] at h ⊢
  exact callWith_function (o := ⟨.type "function", none, .func fd, #[]⟩) (fd := fd) (evalArgs_plain (wpAny_mono h (fun vs s₁ h₁ => ⟨⟨h₁.1.base _ _ (G.X _ _ (ho w)), rfl⟩, call_of h₁.2⟩) fun _ _ x => x))
theorem c_fnk {f : Addr} {fd : FuncData} {e : Expr} {rest : List Expr} {kws : List Keyword} {Q : Value → Shared → Prop} (G : Gnd w mg mb B) (ho : FnIs f fd)
    (h : wpAny (model PR w) A (spliced (backTo pos (starEach (e :: rest) env))) (fun vs s₁ => wpAny (model PR w) A (evalAll ((backToKw pos (keywordEach kws env)).map (·.2)))
      (fun ks s₂ => Ok B s₂.heap ∧ codeAny (model PR w) A (.call (.ref f) ⟨vs, ((backToKw pos (keywordEach kws env)).filterMap (·.1)).zip ks⟩) (ResQ Q) s₂) no s₁) no s)
    (hall : (backToKw pos (keywordEach kws env)).all (·.1.isSome) = true := by rfl)
    (he : starEach (e :: rest) env = (false, eval e env) :: starEach rest env := by rfl) :
    wpAny (model PR w) A (callWith pos (.ref f) [] (backTo pos (starEach (e :: rest) env)) (backToKw pos (keywordEach kws env))) Q no s :=
  callWith_function_kw (o := ⟨.type "function", none, .func fd, #[]⟩) (fd := fd) (evalArgs_kw2 hall (wpAny_mono h (fun vs s₁ h₁ => wpAny_mono h₁ (fun ks s₂ h₂ => ⟨⟨h₂.1.base _ _ (G.X _ _ (ho w)), rfl⟩, call_of h₂.2⟩) fun _ _ x => x) fun _ _ x => x) he)
theorem c_ob {f : Addr} {o : Obj} {fd : FuncData} {e : Expr} {rest : List Expr} {Q : Value → Shared → Prop} (hd : o.data = .func fd)
    (h : wpAny (model PR w) A (spliced (backTo pos (starEach (e :: rest) env))) (fun vs s₁ => s₁.heap.get? f = some o ∧ codeAny (model PR w) A (.call (.ref f) ⟨vs, []⟩) (ResQ Q) s₁) no s)
    (he : starEach (e :: rest) env = (false, eval e env) :: starEach rest env := by rfl) :
    wpAny (model PR w) A (callWith pos (.ref f) [] (backTo pos (starEach (e :: rest) env)) []) Q no s := by
  rw [he] at h ⊢
  exact callWith_function (o := o) (fd := fd) (evalArgs_plain (wpAny_mono h (fun vs s₁ h₁ => ⟨⟨h₁.1, hd⟩, call_of h₁.2⟩) fun _ _ x => x))
end

noncomputable def tNT : {t : Tok // ∀ w, nsIn (KK w) mainGlobals (Str.ofString "NT_OFFSET") = some (some (.int 256 t))} := ⟨_, fun _ => rfl⟩
noncomputable def tEM : {t : Tok // ∀ w, nsIn (KK w) mainGlobals (Str.ofString "ENDMARKER") = some (some (.int 0 t))} := ⟨_, fun _ => rfl⟩
noncomputable def tCM : {t : Tok // ∀ w, nsIn (KK w) mainGlobals (Str.ofString "CHAR_MAX") = some (some (.int 127 t))} := ⟨_, fun _ => rfl⟩
section
variable {w : World}
theorem g21 : nsIn (KK w) mainGlobals (Str.ofString "ISTERMINAL") = some (some (.ref 21)) := by kernel_rfl
theorem cd21 : codeIn (KK w) F21.1.code F21.1.qualname = true := by kernel_rfl
theorem g28 : nsIn (KK w) mainGlobals (Str.ofString "ISNONTERMINAL") = some (some (.ref 28)) := by kernel_rfl
theorem cd28 : codeIn (KK w) F28.1.code F28.1.qualname = true := by kernel_rfl
theorem g35 : nsIn (KK w) mainGlobals (Str.ofString "ISEOF") = some (some (.ref 35)) := by kernel_rfl
theorem cd35 : codeIn (KK w) F35.1.code F35.1.qualname = true := by kernel_rfl
theorem g44 : nsIn (KK w) mainGlobals (Str.ofString "bisect_right") = some (some (.ref 44)) := by kernel_rfl
theorem cd44 : codeIn (KK w) F44.1.code F44.1.qualname = true := by kernel_rfl
theorem g53 : nsIn (KK w) mainGlobals (Str.ofString "insort_left") = some (some (.ref 53)) := by kernel_rfl
theorem cd53 : codeIn (KK w) F53.1.code F53.1.qualname = true := by kernel_rfl
theorem g62 : nsIn (KK w) mainGlobals (Str.ofString "bisect_left") = some (some (.ref 62)) := by kernel_rfl
theorem cd62 : codeIn (KK w) F62.1.code F62.1.qualname = true := by kernel_rfl
theorem g69 : nsIn (KK w) mainGlobals (Str.ofString "_strxfrm") = some (some (.ref 69)) := by kernel_rfl
theorem cd69 : codeIn (KK w) F69.1.code F69.1.qualname = true := by kernel_rfl
theorem g76 : nsIn (KK w) mainGlobals (Str.ofString "_grouping_intervals") = some (some (.ref 76)) := by kernel_rfl
theorem cd76 : codeIn (KK w) F76.1.code F76.1.qualname = true := by kernel_rfl
theorem g83 : nsIn (KK w) mainGlobals (Str.ofString "_law_figure") = some (some (.ref 83)) := by kernel_rfl
theorem g88 : nsIn (KK w) mainGlobals (Str.ofString "_law_sizes") = some (some (.ref 88)) := by kernel_rfl
theorem cd88 : codeIn (KK w) F88.1.code F88.1.qualname = true := by kernel_rfl
theorem g93 : nsIn (KK w) mainGlobals (Str.ofString "_law_drawn") = some (some (.ref 93)) := by kernel_rfl
theorem cd93 : codeIn (KK w) F93.1.code F93.1.qualname = true := by kernel_rfl
theorem g100 : nsIn (KK w) mainGlobals (Str.ofString "_law_read") = some (some (.ref 100)) := by kernel_rfl
theorem cd100 : codeIn (KK w) F100.1.code F100.1.qualname = true := by kernel_rfl
theorem g107 : nsIn (KK w) mainGlobals (Str.ofString "_law_front") = some (some (.ref 107)) := by kernel_rfl
theorem cd107 : codeIn (KK w) F107.1.code F107.1.qualname = true := by kernel_rfl
theorem g114 : nsIn (KK w) mainGlobals (Str.ofString "_law_halved") = some (some (.ref 114)) := by kernel_rfl
theorem cd114 : codeIn (KK w) F114.1.code F114.1.qualname = true := by kernel_rfl
theorem g121 : nsIn (KK w) mainGlobals (Str.ofString "_law_fewest") = some (some (.ref 121)) := by kernel_rfl
theorem cd121 : codeIn (KK w) F121.1.code F121.1.qualname = true := by kernel_rfl
theorem g126 : nsIn (KK w) mainGlobals (Str.ofString "_law_code") = some (some (.ref 126)) := by kernel_rfl
theorem cd126 : codeIn (KK w) F126.1.code F126.1.qualname = true := by kernel_rfl
theorem b_len : nsIn (KK w) mainGlobals (Str.ofString "len") = some none := by kernel_rfl
theorem b_range : nsIn (KK w) mainGlobals (Str.ofString "range") = some none := by kernel_rfl
theorem b_zip : nsIn (KK w) mainGlobals (Str.ofString "zip") = some none := by kernel_rfl
theorem b_max : nsIn (KK w) mainGlobals (Str.ofString "max") = some none := by kernel_rfl
theorem b_min : nsIn (KK w) mainGlobals (Str.ofString "min") = some none := by kernel_rfl
theorem b_ord : nsIn (KK w) mainGlobals (Str.ofString "ord") = some none := by kernel_rfl
theorem b_chr : nsIn (KK w) mainGlobals (Str.ofString "chr") = some none := by kernel_rfl
theorem b_sorted : nsIn (KK w) mainGlobals (Str.ofString "sorted") = some none := by kernel_rfl
end
section
variable {w : World} {mg mb : Str → Option Value} {B : Heap} {A : Around} {s : Shared} {R : Result → Shared → Prop}
theorem strx_spec (G : Gnd w mg mb B) (O : Ok B s.heap) (r : Room 1 A) {v : Value} (k : ∀ s', Aft s s' → R (.ok (.ret v)) s') :
    codeAny (model PR w) A (.call (.ref 69) ⟨[v], []⟩) R s := by
  refine enter (fd := F69.1) (binds := [(Str.ofString "s", v)]) G O r (F69.2 w) cd69 rfl (BindsTo.of_eq (by rfl)) (by decide) (locs rfl) ?_
  intro A s₁ D r
  refine x_ret ?_
  ((with_reducible refine' nmQ ?D ?v ?_ ?o ?L); (case L => exact rfl); (case o => exact Eq.refl true); (case D => assumption); (case v => exact rfl))
  exact k _ (Act.done (by assumption))
theorem term_spec (G : Gnd w mg mb B) (O : Ok B s.heap) (r : Room 1 A) {n : Int} {t : Tok} (k : ∀ s', Aft s s' → R (.ok (.ret (.bool (decide (n < 256))))) s') :
    codeAny (model PR w) A (.call (.ref 21) ⟨[.int n t], []⟩) R s := by
  refine enter (fd := F21.1) (binds := [(Str.ofString "x", .int n t)]) G O r (F21.2 w) cd21 rfl (BindsTo.of_eq (by rfl)) (by decide) (locs rfl) ?_
  intro A s₁ D r
  refine x_ret ?_
  ((with_reducible refine wpAny_Compare1 ?_ ?hm); (case hm => with_unfolding_all rfl)); ((with_reducible refine' nmQ ?D ?v ?_ ?o ?L); (case L => exact rfl); (case o => exact Eq.refl true); (case D => assumption); (case v => exact rfl))
  refine nmG G (by assumption) (tNT.2 w) ?_
  (with_reducible refine o_lt ?_)
  exact k _ (Act.done (by assumption))
theorem nont_spec (G : Gnd w mg mb B) (O : Ok B s.heap) (r : Room 1 A) {n : Int} {t : Tok} (k : ∀ s', Aft s s' → R (.ok (.ret (.bool (decide (256 ≤ n))))) s') :
    codeAny (model PR w) A (.call (.ref 28) ⟨[.int n t], []⟩) R s := by
  refine enter (fd := F28.1) (binds := [(Str.ofString "x", .int n t)]) G O r (F28.2 w) cd28 rfl (BindsTo.of_eq (by rfl)) (by decide) (locs rfl) ?_
  intro A s₁ D r
  refine x_ret ?_
  ((with_reducible refine wpAny_Compare1 ?_ ?hm); (case hm => with_unfolding_all rfl)); ((with_reducible refine' nmQ ?D ?v ?_ ?o ?L); (case L => exact rfl); (case o => exact Eq.refl true); (case D => assumption); (case v => exact rfl))
  refine nmG G (by assumption) (tNT.2 w) ?_
  (with_reducible refine o_ge ?_)
  exact k _ (Act.done (by assumption))
theorem eof_spec (G : Gnd w mg mb B) (O : Ok B s.heap) (r : Room 1 A) {n : Int} {t : Tok} (k : ∀ s', Aft s s' → R (.ok (.ret (.bool (n == 0)))) s') :
    codeAny (model PR w) A (.call (.ref 35) ⟨[.int n t], []⟩) R s := by
  refine enter (fd := F35.1) (binds := [(Str.ofString "x", .int n t)]) G O r (F35.2 w) cd35 rfl (BindsTo.of_eq (by rfl)) (by decide) (locs rfl) ?_
  intro A s₁ D r
  refine x_ret ?_
  ((with_reducible refine wpAny_Compare1 ?_ ?hm); (case hm => with_unfolding_all rfl)); ((with_reducible refine' nmQ ?D ?v ?_ ?o ?L); (case L => exact rfl); (case o => exact Eq.refl true); (case D => assumption); (case v => exact rfl))
  refine nmG G (by assumption) (tEM.2 w) ?_
  (with_reducible refine o_eq ?_)
  exact k _ (Act.done (by assumption))
end
noncomputable def S (l : List Nat) : Str := ⟨l.toArray⟩
theorem S_len (l : List Nat) : (S l).length = l.length := by simp [S, Str.length]
theorem S_cps (l : List Nat) : (S l).cps = l.toArray := rfl
theorem S_inj {l m : List Nat} (h : S l = S m) : l = m := by
  have := congrArg (fun x => x.cps.toList) h
  simpa [S] using this

theorem idx_ss (i j n : Nat) : Builtin.Str.strSliceIndices (some (i : Int)) (some (j : Int)) 1 n = (List.range (min j n - min i n)).map (min i n + ·) := by
  unfold Builtin.Str.strSliceIndices
  have h1 : ¬ ((i : Int) < 0) := by first | decide | assumption | exact a1 ‹_› | exact a2 ‹_› | exact a3 ‹_› (by decide) | exact dl ‹_› | exact ee ‹_› ‹_› | lia | omega
  have h2 : ¬ ((j : Int) < 0) := by first | decide | assumption | exact a1 ‹_› | exact a2 ‹_› | exact a3 ‹_› (by decide) | exact dl ‹_› | exact ee ‹_› ‹_› | lia | omega
  simp only [h1, h2, if_false, show (1 : Int) > 0 by decide, if_true]
  rw [show max (0 : Int) (min (i : Int) (n : Int)) = ((min i n : Nat) : Int) by first | with_reducible exact s64 ‹_› | lia | omega, show max (0 : Int) (min (j : Int) (n : Int)) = ((min j n : Nat) : Int) by first | with_reducible exact s64 ‹_› | lia | omega]
  exact sliceRange_one _ _
theorem idx_sn (i n : Nat) : Builtin.Str.strSliceIndices (some (i : Int)) none 1 n = (List.range (n - min i n)).map (min i n + ·) := by
  unfold Builtin.Str.strSliceIndices
  have h1 : ¬ ((i : Int) < 0) := by first | decide | assumption | exact a1 ‹_› | exact a2 ‹_› | exact a3 ‹_› (by decide) | exact dl ‹_› | exact ee ‹_› ‹_› | lia | omega
  simp only [h1, if_false, show (1 : Int) > 0 by decide, if_true]
  rw [show max (0 : Int) (min (i : Int) (n : Int)) = ((min i n : Nat) : Int) by first | with_reducible exact s64 ‹_› | lia | omega]
  exact sliceRange_one _ _
theorem idx_ns (j n : Nat) : Builtin.Str.strSliceIndices none (some (j : Int)) 1 n = (List.range (min j n)).map (0 + ·) := by
  unfold Builtin.Str.strSliceIndices
  have h1 : ¬ ((j : Int) < 0) := by first | decide | assumption | exact a1 ‹_› | exact a2 ‹_› | exact a3 ‹_› (by decide) | exact dl ‹_› | exact ee ‹_› ‹_› | lia | omega
  simp only [h1, if_false, show (1 : Int) > 0 by decide, if_true]
  rw [show max (0 : Int) (min (j : Int) (n : Int)) = ((min j n : Nat) : Int) by first | with_reducible exact s64 ‹_› | lia | omega]
  exact sliceRange_one 0 _
theorem seg_min {α : Type} (tx : List α) (i j : Nat) : (tx.drop (min i tx.length)).take (min j tx.length - min i tx.length) = (tx.take j).drop i := by
  rw [List.drop_take]
  rcases Nat.le_total i tx.length with h | h
  · rw [Nat.min_eq_left h]
    rcases Nat.le_total j tx.length with k | k
    · rw [Nat.min_eq_left k]
    · rw [Nat.min_eq_right k, List.take_of_length_le (by simp), List.take_of_length_le (by rw [List.length_drop]; exact Nat.sub_le_sub_right k i)]
  · rw [Nat.min_eq_right h, List.drop_eq_nil_of_le (Nat.le_refl _), List.drop_eq_nil_of_le h, List.take_nil, List.take_nil]
theorem no_cut {u v n : Nat} (h : u - v = n) (h1 : u ≤ n) (h2 : v ≤ n) : v = 0 := by first | with_reducible exact s75 ‹_› ‹_› ‹_› | lia | omega
theorem tslice (tx : List Nat) (i j : Nat) : Txt.slice (S tx) (some (i : Int)) (some (j : Int)) = S ((tx.take j).drop i) := by
  unfold Txt.slice
  rw [idx_ss, S_len, List.length_map, List.length_range, S_cps, pick_run]
  have e : (tx.toArray.toList.drop (min i tx.length)).take (min j tx.length - min i tx.length) = (tx.take j).drop i := seg_min tx i j
  split
  · rename_i h
    have h' : min j tx.length - min i tx.length = tx.length := by simpa using h
    have hv := no_cut h' (Nat.min_le_right ..) (Nat.min_le_right ..)
    rw [← seg_min, h', hv, List.drop_zero, List.take_length]
  · rw [e]; rfl
theorem tsliceF (tx : List Nat) (i : Nat) : Txt.slice (S tx) (some (i : Int)) none = S (tx.drop i) := by
  unfold Txt.slice
  rw [idx_sn, S_len, List.length_map, List.length_range, S_cps, pick_run]
  have e : (tx.toArray.toList.drop (min i tx.length)).take (tx.length - min i tx.length) = tx.drop i := by
    rw [List.take_of_length_le (by simp)]
    by_cases h : i ≤ tx.length
    · rw [Nat.min_eq_left h]
    · rw [Nat.min_eq_right (by first | decide | assumption | exact a1 ‹_› | exact a2 ‹_› | exact a3 ‹_› (by decide) | exact dl ‹_› | exact ee ‹_› ‹_› | lia | omega), List.drop_eq_nil_of_le (by simp), List.drop_eq_nil_of_le (by first | decide | assumption | exact a1 ‹_› | exact a2 ‹_› | exact a3 ‹_› (by decide) | exact dl ‹_› | exact ee ‹_› ‹_› | lia | omega)]
  split
  · rename_i h
    have h' : tx.length - min i tx.length = tx.length := by simpa using h
    by_cases h0 : tx.length = 0
    · have : tx = [] := List.length_eq_zero_iff.mp h0
      subst this; simp
    · have hi : i = 0 := by first | decide | assumption | exact a1 ‹_› | exact a2 ‹_› | exact a3 ‹_› (by decide) | exact dl ‹_› | exact ee ‹_› ‹_› | lia | omega
      subst hi
      rw [List.drop_zero]
  · rw [e]; rfl
theorem tsliceU (tx : List Nat) (j : Nat) : Txt.slice (S tx) none (some (j : Int)) = S (tx.take j) := by
  unfold Txt.slice
  rw [idx_ns, S_len, List.length_map, List.length_range, S_cps, pick_run]
  have e : (tx.toArray.toList.drop 0).take (min j tx.length) = tx.take j := by
    rw [List.drop_zero]
    by_cases h : j ≤ tx.length
    · rw [Nat.min_eq_left h]
    · rw [Nat.min_eq_right (by first | decide | assumption | exact a1 ‹_› | exact a2 ‹_› | exact a3 ‹_› (by decide) | exact dl ‹_› | exact ee ‹_› ‹_› | lia | omega), List.take_of_length_le (by simp), List.take_of_length_le (by first | decide | assumption | exact a1 ‹_› | exact a2 ‹_› | exact a3 ‹_› (by decide) | exact dl ‹_› | exact ee ‹_› ‹_› | lia | omega)]
  split
  · rename_i h
    have h' : min j tx.length = tx.length := by simpa using h
    rw [List.take_of_length_le (by first | decide | assumption | exact a1 ‹_› | exact a2 ‹_› | exact a3 ‹_› (by decide) | exact dl ‹_› | exact ee ‹_› ‹_› | lia | omega)]
  · rw [e]; rfl

section
variable {w : World} {B : Heap} {A : Around} {E : Value → Shared → Prop} {s₀ s : Shared} {L : Addr} {l : List (Str × Value)} {N : List (Addr × Obj)} {P : Heap → Prop} {Q : Value → Shared → Prop} {env : Env} {value lo hi : Expr} {p p' : Pos} {tx : List Nat} {i j : Nat} {t ti tj : Tok}
theorem Act.push (D : Act B s₀ L l N P s) (o : Obj) (hf : o.isFreed = false) : Act B s₀ L l ((s.heap.objs.size, o) :: N) P { s with heap := s.heap.push o } := D.to' (D.hp.push o hf)
theorem pushK (N : List (Addr × Obj)) : KeptH (fun h => Hp B s₀.heap L l N P h) := fun h ob D => D.keeps fun _ _ e => Heap.get?_push_of_some ob e
theorem t_ss (D : Act B s₀ L l N P s) (hz : tx.length ≤ 1000) (h : ∀ s' t', Act B s₀ L l N P s' → Q (.str (S ((tx.take j).drop i)) t') s')
    (hs : subscripted (.Slice (some lo) (some hi) none p) false (.str (S tx) t) (.ref s.heap.objs.size) = operate [.ref s.heap.objs.size, .str (S tx) t] (getItem (.str (S tx) t) (.ref s.heap.objs.size)) := by with_unfolding_all rfl)
    (ht : ∀ r, letTemporaryGo value (.str (S tx) t) r = pure () := by intro _; with_unfolding_all rfl) :
    wpAny (model PR w) A (subscriptTail value (.Slice (some lo) (some hi) none p) (.str (S tx) t) (.ref s.heap.objs.size)) Q E { s with heap := s.heap.push { cls := .type "slice", data := .fields #[.int (i : Int) ti, .int (j : Int) tj, .none] } } :=
  tail_of_ItemOn (SBH.sliceItem_ss (pushK N) D.hp (fun h' t' k a => by rw [tslice]; exact h _ _ (D.to a _)) (by rw [S_len, sizeLine_eq]; first | with_reducible exact a3 ‹_› (by decide) | lia | omega)) hs ht
theorem t_sn (D : Act B s₀ L l N P s) (hz : tx.length ≤ 1000) (h : ∀ s' t', Act B s₀ L l N P s' → Q (.str (S (tx.drop i)) t') s')
    (hs : subscripted (.Slice (some lo) none none p) false (.str (S tx) t) (.ref s.heap.objs.size) = operate [.ref s.heap.objs.size, .str (S tx) t] (getItem (.str (S tx) t) (.ref s.heap.objs.size)) := by with_unfolding_all rfl)
    (ht : ∀ r, letTemporaryGo value (.str (S tx) t) r = pure () := by intro _; with_unfolding_all rfl) :
    wpAny (model PR w) A (subscriptTail value (.Slice (some lo) none none p) (.str (S tx) t) (.ref s.heap.objs.size)) Q E { s with heap := s.heap.push { cls := .type "slice", data := .fields #[.int (i : Int) ti, .none, .none] } } :=
  tail_of_ItemOn (SBH.sliceItem_sn (pushK N) D.hp (fun h' t' k a => by rw [tsliceF]; exact h _ _ (D.to a _)) (by rw [S_len, sizeLine_eq]; first | with_reducible exact a3 ‹_› (by decide) | lia | omega)) hs ht
theorem t_ns (D : Act B s₀ L l N P s) (hz : tx.length ≤ 1000) (h : ∀ s' t', Act B s₀ L l N P s' → Q (.str (S (tx.take j)) t') s')
    (hs : subscripted (.Slice none (some hi) none p) false (.str (S tx) t) (.ref s.heap.objs.size) = operate [.ref s.heap.objs.size, .str (S tx) t] (getItem (.str (S tx) t) (.ref s.heap.objs.size)) := by with_unfolding_all rfl)
    (ht : ∀ r, letTemporaryGo value (.str (S tx) t) r = pure () := by intro _; with_unfolding_all rfl) :
    wpAny (model PR w) A (subscriptTail value (.Slice none (some hi) none p) (.str (S tx) t) (.ref s.heap.objs.size)) Q E { s with heap := s.heap.push { cls := .type "slice", data := .fields #[.none, .int (j : Int) tj, .none] } } :=
  tail_of_ItemOn (SBH.sliceItem_ns (pushK N) D.hp (fun h' t' k a => by rw [tsliceU]; exact h _ _ (D.to a _)) (by rw [S_len, sizeLine_eq]; first | with_reducible exact a3 ‹_› (by decide) | lia | omega)) hs ht
end
noncomputable def lamParts : {q : Arguments × Expr × Scope // F107.1.body = .stmts [.Return (some (.Lambda q.1 q.2.1 q.2.2 lamPos)) ⟨109, 4, 109, 59⟩]} := ⟨⟨_, _, _⟩, rfl⟩
noncomputable abbrev lamP : Arguments := lamParts.1.1
noncomputable abbrev lamB : Expr := lamParts.1.2.1
noncomputable abbrev lamS : Scope := lamParts.1.2.2

noncomputable def cellIs (h : Heap) (c : Addr) (v : Value) : Prop := ∃ o, h.get? c = some o ∧ o.data = .cell (some v) ∧ c ≠ 102

noncomputable def IsKey (h : Heap) (f : Addr) (tx : List Nat) (sz : Nat) : Prop :=
  ∃ c ctv pm c1 c2 t1 t2, h.get? f = some (kla_obj "<lambda>" lamQual lamP lamB lamS [(Str.ofString "text", c1), (Str.ofString "size", c2)] pm c ctv) ∧ c ≠ 102 ∧ h.CodeRec (.ref c) lamQual ∧
    cellIs h c1 (.str (S tx) t1) ∧ cellIs h c2 (.int (sz : Int) t2)

section
variable {h h' : Heap} {f : Addr} {tx : List Nat} {sz : Nat}
theorem IsKey.but (x : IsKey h f tx sz) {X : List Addr} (e : Ext X h h') (hf : f ≠ 102) (hX : ∀ b ∈ X, ∃ o xs n, h.get? b = some o ∧ o.data = .seq xs n) : IsKey h' f tx sz := by
  obtain ⟨c, ctv, pm, c1, c2, t1, t2, ho, hc, ⟨c', oc, vs, t, e1, e2, e3, e4⟩, ⟨o1, a1, b1, n1⟩, ⟨o2, a2, b2, n2⟩⟩ := x
  cases e1
  have nX : ∀ b o, h.get? b = some o → (∀ xs n, o.data ≠ .seq xs n) → b ∉ X := fun b o e hn hb => by
    obtain ⟨o', xs, n, e', d⟩ := hX b hb
    rw [e] at e'; cases e'
    exact hn xs n d
  refine ⟨c, ctv, pm, c1, c2, t1, t2, e _ _ hf (nX _ _ ho (by intro xs n q; cases q)) ho, hc, ⟨c, oc, vs, t, rfl, e _ _ hc (nX _ _ e2 (by intro xs n q; rw [e3] at q; cases q)) e2, e3, e4⟩, ⟨o1, e _ _ n1 (nX _ _ a1 (by intro xs n q; rw [b1] at q; cases q)) a1, b1, n1⟩, ⟨o2, e _ _ n2 (nX _ _ a2 (by intro xs n q; rw [b2] at q; cases q)) a2, b2, n2⟩⟩
theorem IsKey.ne (x : IsKey h f tx sz) (t : TabOk h) : f ≠ 102 := by
  obtain ⟨c, ctv, pm, c1, c2, t1, t2, ho, _⟩ := x
  intro e
  subst e
  rcases t with t | ⟨_, _, _, _, t, _⟩ <;> (rw [t] at ho; cases ho)
theorem IsKey.ext (x : IsKey h f tx sz) (e : Ext [] h h') (t : TabOk h) : IsKey h' f tx sz := x.but e (x.ne t) fun _ hb => nomatch hb
end

section
variable {w : World} {mg mb : Str → Option Value} {B hs : Heap} {A : Around} {s₀ s : Shared} {R : Result → Shared → Prop} {E : Value → Shared → Prop} {L a : Addr} {l : List (Str × Value)} {N : List (Addr × Obj)} {P : Heap → Prop}
  {env : Env} {tx : List Nat} {sz : Nat}
theorem nmF {x : Str} {p : Pos} {v : Value} {c : Addr} {Q : Value → Shared → Prop} (hv : cellIs s.heap c v) (hc : env.cells.lookup x = some c) (h : Q v s)
    (hk : env.scope.kind = .function := by rfl) (hx : env.kindOf x = some .free := by rfl) (hb : (x == ("__debug__" : Str)) = false := by rfl) (hn : (x == ("__classdict__" : Str)) = false := by rfl) :
    wpAny (model PR w) A (eval (.Name x p) env) Q E s := by
  obtain ⟨o, e, hd, _⟩ := hv
  exact wpAny_Name (wpAny_loadName_free hk hx hc ⟨o, e, hd⟩ h hn) hb
theorem cellIs.ext {h h' : Heap} {c : Addr} {v : Value} (x : cellIs h c v) (k : Ext [] h h') : cellIs h' c v := let ⟨o, e, d, n⟩ := x; ⟨o, k _ _ n List.not_mem_nil e, d, n⟩
theorem Act.ext (D : Act B s₀ L l N P s) : Ext [] s₀.heap s.heap := D.hp.ext

theorem key_spec (G : Gnd w mg mb B) (O : Ok B s.heap) (r : Room 2 A) {f : Addr} (hk : IsKey s.heap f tx sz) (hz : tx.length ≤ 1000) {p : Nat} {tp : Tok} (k : ∀ s' t, Aft s s' → R (.ok (.ret (.str (S ((tx.take (p + sz)).drop p)) t))) s') :
    codeAny (model PR w) A (.call (.ref f) ⟨[.int (p : Int) tp], []⟩) R s := by
  have hf := hk.ne O.tab
  obtain ⟨c, ctv, pm, c1, c2, t1, t2, ho, hc, hr, h1, h2⟩ := hk
  obtain ⟨pp, loose, mean, T⟩ := G.T
  refine kla_callFunE r.room ho rfl rfl rfl rfl hr ?_
  rw [show bindArgs (kla_fn "<lambda>" lamQual lamP lamB lamS [(Str.ofString "text", c1), (Str.ofString "size", c2)] pm (.ref c) ctv) ⟨[.int (p : Int) tp], []⟩ = pure [(Str.ofString "place", .int (p : Int) tp)] from rfl]
  refine wpAny_pure (wpAny_newFunctionEnv (by show ∀ x ∈ lamS.names, x.2 ≠ .cell; decide) (locs rfl) (fun h₁ hn hsb => ⟨((T.nolimit).keeps O.base).fresh _ hsb, ?_⟩) rfl)
  have k₁ : ∀ b o, s.heap.get? b = some o → h₁.get? b = some o := fun b o e => hsb.extBut b o (Nat.ne_of_lt (Heap.lt_size e)) (Heap.get?_push_of_some _ e)
  have D : Act B s s.heap.objs.size [(Str.ofString "place", .int (p : Int) tp)] [] T0 { s with heap := h₁, toks := s.toks + 1 } := ⟨O.act hn k₁, rfl, id, fun _ _ e => e⟩
  show codeAny _ _ (.expr lamB (envX lamQual lamS s.heap.objs.size f (.ref c) _)) _ { s with heap := h₁, toks := s.toks + 1 }
  refine kla_codeExpr (wpAny_mono (Q := fun v s' => R (.ok (.ret v)) s') (E := no) ?_ (fun _ _ x => x) fun _ _ x => x.elim)
  have r1 := r.deeper (envX lamQual lamS s.heap.objs.size f (.ref c) [(Str.ofString "text", c1), (Str.ofString "size", c2)])
  revert r1 D
  generalize ({ s with heap := h₁, toks := s.toks + 1 } : Shared) = s₁
  generalize (A.deeper (envX lamQual lamS s.heap.objs.size f (.ref c) [(Str.ofString "text", c1), (Str.ofString "size", c2)])) = A₁
  intro D r1
  have D0 := D
  refine wpAny_Call_Name_kw ?_
  refine nmG G D g69 ?_
  refine c_fn G F69.2 ?_
  ((with_reducible refine sp_cons ?_ ?he); (case he => exact rfl))
  refine Subscript_ ?_
  refine nmF (h1.ext D.ext) rfl ?_
  refine wpAny_Slice ?_
  refine evalPart_some_step ?_
  ((with_reducible refine' nmQ ?D ?v ?_ ?o ?L); (case L => exact rfl); (case o => exact Eq.refl true); (case D => assumption); (case v => exact rfl))
  refine evalPart_some_step ?_
  (with_reducible refine wpAny_BinOp ?_)
  ((with_reducible refine' nmQ ?D ?v ?_ ?o ?L); (case L => exact rfl); (case o => exact Eq.refl true); (case D => assumption); (case v => exact rfl))
  refine nmF (h2.ext D.ext) rfl ?_
  refine o_add D ?_
  intro s2 t2 D
  refine evalPart_none_step ?_
  rw [show ((p : Int) + (sz : Int)) = ((p + sz : Nat) : Int) from rfl]
  refine t_ss D hz ?_
  intro s3 t3 D
  (with_reducible refine sp_nil ?_)
  refine ⟨D.ok, ?_⟩
  refine strx_spec G D.ok (r1.weak (by first | decide | assumption | exact a1 ‹_› | exact a2 ‹_› | exact a3 ‹_› (by decide) | exact dl ‹_› | exact ee ‹_› ‹_› | lia | omega)) ?_
  intro s4 X
  exact k _ _ (D.aft X).done

theorem enterC {fd : FuncData} {body : List Stmt} {f : Addr} {args : Args} {binds : List (Str × Value)} {oc : Value} {od : Option Addr} {osl : Array (Option Value)} (G : Gnd w mg mb B) (O : Ok B s.heap) {n : Nat} (r : Room (n + 1) A)
    (ho : (KK w).lookup f = some ⟨oc, od, .func fd, osl⟩) (hcd : codeIn (KK w) fd.code fd.qualname = true) (hbody : fd.body = .stmts body) (hbind : BindsTo s fd args binds)
    (hkind : (binds.all fun y => fd.scope.names.lookup y.1 == some .local || fd.scope.names.lookup y.1 == some .cell) = true)
    (hnd : ((cellsFrom 0 fd.scope.names []).map (·.1)).Nodup)
    (h : ∀ A' s₁, InCallC s s.heap.objs.size (bindL (fun x => fd.scope.names.lookup x) binds fun _ => none) (cellsFrom (s.heap.objs.size + 1) fd.scope.names []) (bindC (fun x => fd.scope.names.lookup x) binds fun _ => none) s₁ → Room n A' →
      wpAny (model PR w) A' (execs body (fenvC fd f s.heap.objs.size)) (fun fl s' => R (.ok (.ret (match fl with | .ret v => v | _ => .none))) s') (fun _ _ => False) s₁)
    (hg : fd.globals = mainGlobals := by rfl) (hb : fd.builtins = builtinsNs := by rfl) (hc : fd.closure = [] := by rfl)
    (hco : fd.scope.isCoroutine = false := by rfl) (hgen : fd.scope.isGenerator = false := by rfl) (hk : fd.scope.kind = .function := by rfl) :
    codeAny (model PR w) A (.call (.ref f) args) R s := by
  obtain ⟨p, loose, mean, T⟩ := G.T
  refine codeAny_call_function (o := ⟨oc, od, .func fd, osl⟩) (fd := fd) r.room (O.base _ _ (G.X _ _ ho)) rfl hco hgen hbody ((codeRec_of G.X hcd).keeps O.base) (hbind _ _ _ _ ?_)
  rw [hg, hb, hc]
  refine wpAny_newFunctionEnv_cells hk (kindsX hkind _) fun env' he s' x => ?_
  subst he
  refine ⟨((T.nolimit).keeps O.base).keeps x.toInCall.keep, codeAny_func ?_⟩
  exact wpAny_mono (h _ s' x (r.deeper _)) (fun _ _ x => x) fun _ _ x => x.elim
end
section
variable {w : World} {mg mb : Str → Option Value} {B hs : Heap} {A : Around} {s₀ s : Shared} {R : Result → Shared → Prop} {E : Value → Shared → Prop} {L a : Addr} {l : List (Str × Value)} {N : List (Addr × Obj)} {P : Heap → Prop}
  {tx : List Nat} {sz : Nat}
theorem Ok.inCall (O : Ok B s.heap) {m : Str → Option Value} {s₁ : Shared} (x : InCall s s.heap.objs.size m s₁) (hm : ∀ y, m y = l.lookup y) : Act B s s.heap.objs.size l [] T0 s₁ := by
  obtain ⟨⟨h, tk, rfl⟩, ns, kp, fr⟩ := x
  have e : m = fun y => l.lookup y := funext hm
  rw [e] at ns
  exact ⟨O.act ns kp, rfl, id, fun _ _ e => e⟩
theorem Gnd.bat (G : Gnd w mg mb B) {h : Heap} (O : ∀ b o, B.get? b = some o → h.get? b = some o) : h.BuiltinsAt mg 102 := by
  obtain ⟨_, _, _, T⟩ := G.T
  obtain ⟨bm, ob, b1, b2, b3, b4, b5, b6⟩ := T.bmain
  refine ⟨bm, ob, b1, b2, fun q => ?_, fun q => ?_, O _ _ b3, b4, b5, b6⟩
  · obtain ⟨o, es, ep, e, hd, _⟩ := T.g
    rw [q, e] at b3; cases b3; rw [hd] at b6; cases b6
  · rw [q, G.no] at b3; cases b3
theorem cd107' : F107.1.code = .ref 106 := by rfl
theorem front_spec (G : Gnd w mg mb B) (O : Ok B s.heap) (r : Room 1 A) {tt tz : Tok} (k : ∀ s' f, Aft s s' → s.heap.objs.size ≤ f → IsKey s'.heap f tx sz → R (.ok (.ret (.ref f))) s') :
    codeAny (model PR w) A (.call (.ref 107) ⟨[.str (S tx) tt, .int (sz : Int) tz], []⟩) R s := by
  refine enterC (fd := F107.1) (binds := [(Str.ofString "text", .str (S tx) tt), (Str.ofString "size", .int (sz : Int) tz)]) G O r (F107.2 w) cd107 rfl (BindsTo.of_eq (by rfl)) (by rfl) (by decide) ?_
  intro A s₁ X r
  have D : Act B s s.heap.objs.size [] [] T0 s₁ := O.inCall X.toInCall fun y => by
    by_cases h1 : y = Str.ofString "text" <;> by_cases h2 : y = Str.ofString "size" <;> rfl
  have c1 := X.cell (Str.ofString "text") (s.heap.objs.size + 1) rfl
  have c2 := X.cell (Str.ofString "size") (s.heap.objs.size + 2) rfl
  clear X
  obtain ⟨_, _, _, T⟩ := G.T
  have L2 : (102 : Nat) < s.heap.objs.size := D.hp.L2
  have n1 : s.heap.objs.size + 1 ≠ 102 := by first | decide | assumption | exact a1 ‹_› | exact a2 ‹_› | exact a3 ‹_› (by decide) | exact dl ‹_› | exact ee ‹_› ‹_› | lia | omega
  have n2 : s.heap.objs.size + 2 ≠ 102 := by first | decide | assumption | exact a1 ‹_› | exact a2 ‹_› | exact a3 ‹_› (by decide) | exact dl ‹_› | exact ee ‹_› ‹_› | lia | omega
  refine x_ret ?_
  refine kla_eval rfl ?_
  have hg : s₁.heap.Ns mainGlobals mg := T.g.keeps D.ok.base
  have C : CodeHd s₁.heap 106 102 := G.C.keeps D.ok.base
  obtain ⟨o1, e1, d1⟩ := c1
  obtain ⟨o2, e2, d2⟩ := c2
  have fin : ∀ (h' : Heap) (c : Addr) (ctv : Value) (tk : Nat), Ext [] s₁.heap h' → TabOk h' → s₁.heap.objs.size ≤ h'.objs.size → c ≠ 102 → h'.CodeRec (.ref c) lamQual →
      R (.ok (.ret (.ref h'.objs.size))) { s₁ with heap := h'.push (kla_obj "<lambda>" lamQual lamP lamB lamS [(Str.ofString "text", s.heap.objs.size + 1), (Str.ofString "size", s.heap.objs.size + 2)] ((mg "__name__").getD .none) c ctv), toks := tk } := fun h' c ctv tk x t z n hr => by
    have D2 := (D.hp.go x t).push (kla_obj "<lambda>" lamQual lamP lamB lamS [(Str.ofString "text", s.heap.objs.size + 1), (Str.ofString "size", s.heap.objs.size + 2)] ((mg "__name__").getD .none) c ctv) rfl
    refine k _ _ (D.to D2 tk).done (Nat.le_trans (Nat.le_of_lt D.hp.ltL) z) ⟨c, ctv, _, _, _, tt, tz, Heap.get?_push_size _ rfl, n, hr.push _, ⟨o1, Heap.get?_push_of_some _ (x _ _ n1 List.not_mem_nil e1), d1, n1⟩, ⟨o2, Heap.get?_push_of_some _ (x _ _ n2 List.not_mem_nil e2), d2, n2⟩⟩
  rcases D.hp.tab with t | ⟨c, oc, vs, tk, t1, t2, t3, t4, t5⟩
  · refine kla_makeFunction (mg := mg) (c := 106) (P := 102) (ps := #[]) (clos := [(Str.ofString "text", s.heap.objs.size + 1), (Str.ofString "size", s.heap.objs.size + 2)]) rfl rfl hg cd107' C t trivial rfl (by decide) (G.bat D.ok.base) ?_
    intro c' ctv h' tk x h1 h2 h3 h4
    have h102 := Heap.lt_size t
    have n : c' ≠ 102 := Nat.ne_of_gt (Nat.lt_of_lt_of_le h102 h1)
    refine fin h' c' ctv tk (fun b o hb _ e => x b o hb e) ?_ (Nat.le_of_lt (Nat.lt_of_le_of_lt h1 h2)) n h3
    obtain ⟨c0, oc, vs, t, q, a1, a2, a3⟩ := h3
    cases q
    exact .inr ⟨c', oc, vs, t, h4, n, a1, a2, a3⟩
  · refine kla_makeFunctionHit (mg := mg) (c := 106) (P := 102) (cv := .ref c) (clos := [(Str.ofString "text", s.heap.objs.size + 1), (Str.ofString "size", s.heap.objs.size + 2)]) rfl rfl hg cd107' C t1 trivial rfl (G.bat D.ok.base) ?_
    intro ctv h' tk' kp hz
    exact fin h' c ctv tk' (.of_keeps kp) (D.hp.keeps kp).tab hz t2 ⟨c, oc, vs, tk, rfl, kp _ _ t3, t4, t5⟩
end
section
variable {w : World} {A : Around} {s : Shared} {env : Env} {Q : Flow → Shared → Prop} {rest : List Stmt}
theorem x_while {test body pos} (I : Nat → Shared → Prop)
    (turn : ∀ n s, I n s → wpAny (model PR w) A (isTrue test env (eval test env)) (fun b s₁ =>
      (b = true → wpAny (model PR w) A (execs body env) (fun f s₂ => match f with | .next | .cont => ∃ m, m < n ∧ I m s₂ | .brk => wpAny (model PR w) A (execs rest env) Q no s₂ | .ret v => Q (.ret v) s₂) no s₁) ∧
      (b = false → wpAny (model PR w) A (execs rest env) Q no s₁)) no s)
    (n : Nat) (h : I n s) : wpAny (model PR w) A (execs (.While test body [] pos :: rest) env) Q no s := by
  refine x_cons (wpAny_While (codeAny_whileLoop I (fun n s hI => ?_) n h))
  refine wpAny_mono (turn n s hI) (fun b s₁ h₁ => ?_) fun _ _ x => x.elim
  cases b with
  | true =>
    rw [if_pos rfl]
    refine wpAny_mono (h₁.1 rfl) (fun f s₂ h₂ => ?_) fun _ _ x => x.elim
    cases f <;> exact h₂
  | false =>
    rw [if_neg Bool.false_ne_true]
    exact wpAny_execs_nil (h₁.2 rfl)
theorem x_whileW {test body pos} (I : Nat → Shared → Prop)
    (turn : ∀ n s, I n s → ∀ W : Flow → Shared → Prop, (∀ s₂, (∃ m, m < n ∧ I m s₂) → W .next s₂) → (∀ v s₂, Q (.ret v) s₂ → W (.ret v) s₂) → ∀ K : Bool → Shared → Prop, (∀ b s₁, ((b = true → wpAny (model PR w) A (execs body env) W no s₁) ∧ (b = false → wpAny (model PR w) A (execs rest env) Q no s₁)) → K b s₁) → wpAny (model PR w) A (isTrue test env (eval test env)) K no s)
    (n : Nat) (h : I n s) : wpAny (model PR w) A (execs (.While test body [] pos :: rest) env) Q no s :=
  x_while I (fun n s hI => turn n s hI (fun f s₂ => match f with | .next | .cont => ∃ m, m < n ∧ I m s₂ | .brk => wpAny (model PR w) A (execs rest env) Q no s₂ | .ret v => Q (.ret v) s₂) (fun _ h => h) (fun _ _ h => h) _ fun _ _ h => h) n h
end
section
variable {w : World} {B : Heap} {A : Around} {E : Value → Shared → Prop} {s₀ s : Shared} {L : Addr} {l : List (Str × Value)} {N : List (Addr × Obj)} {P : Heap → Prop} {Q : Value → Shared → Prop} {env : Env} {i j k : Int} {t u : Tok}
theorem o_addK (hk : i + j = k) (D : Act B s₀ L l N P s) (h : ∀ s' t, Act B s₀ L l N P s' → Q (.int k t) s') : wpAny (model PR w) A (binaryOp .Add (.int i t) (.int j u)) Q E s := o_add D (hk ▸ h)
theorem o_subK (hk : i - j = k) (D : Act B s₀ L l N P s) (h : ∀ s' t, Act B s₀ L l N P s' → Q (.int k t) s') : wpAny (model PR w) A (binaryOp .Sub (.int i t) (.int j u)) Q E s := o_sub D (hk ▸ h)
theorem o_half {a b : Nat} (D : Act B s₀ L l N P s) (h : ∀ s' t, Act B s₀ L l N P s' → Q (.int (((a + b) / 2 : Nat) : Int) t) s') : wpAny (model PR w) A (binaryOp .FloorDiv (.int ((a : Int) + (b : Int)) t) (.int 2 u)) Q E s :=
  o_fdiv (by decide) D (by
    have e : ((a : Int) + (b : Int)).fdiv 2 = (((a + b) / 2 : Nat) : Int) := by
      rw [Int.fdiv_eq_ediv_of_nonneg _ (by decide)]; first | exact rfl | lia | omega
    rw [e]; exact h)
theorem Heap.IsList.n102 {h : Heap} {a : Addr} {xs : Array Value} (x : h.IsList a xs) (t : TabOk h) : a ≠ 102 := by
  obtain ⟨o, e, c, _⟩ := x
  intro q
  subst q
  rcases t with t | ⟨_, _, _, _, t, _⟩ <;> (rw [t] at e; cases e; cases c)
theorem Heap.IsList.ext {h h' : Heap} {a : Addr} {xs : Array Value} (x : h.IsList a xs) (t : TabOk h) (e : Ext [] h h') : h'.IsList a xs := let ⟨o, q, r⟩ := x; ⟨o, e _ _ (Heap.IsList.n102 x t) List.not_mem_nil q, r⟩
end

section
variable {w : World} {mg mb : Str → Option Value} {B : Heap} {A : Around} {s₀ s : Shared} {L : Addr} {l : List (Str × Value)} {N : List (Addr × Obj)} {P : Heap → Prop} {env : Env} {pos : Pos}
theorem x_if_to {test body orelse pos} {rest : List Stmt} {Q : Flow → Shared → Prop} (P : Shared → Prop) (h : wpAny (model PR w) A (isTrue test env (eval test env)) (fun b s₁ => (b = true → wpAny (model PR w) A (execs body env) (fun f s₂ => f = .next ∧ P s₂) no s₁) ∧ (b = false → wpAny (model PR w) A (execs orelse env) (fun f s₂ => f = .next ∧ P s₂) no s₁)) no s)
    (k : ∀ s', P s' → wpAny (model PR w) A (execs rest env) Q no s') : wpAny (model PR w) A (execs (.If test body orelse pos :: rest) env) Q no s := by
  have j : ∀ f s₂, (f = Flow.next ∧ P s₂) → nxt (model PR w) A env rest Q no f s₂ := fun f s₂ ⟨e, p⟩ => by subst e; exact k _ p
  exact x_if (wpAny_mono h (fun b s₁ h₁ => ⟨fun e => wpAny_mono (h₁.1 e) j fun _ _ x => x, fun e => wpAny_mono (h₁.2 e) j fun _ _ x => x⟩) fun _ _ x => x)
theorem x_if_toK {test body orelse pos} {rest : List Stmt} {Q : Flow → Shared → Prop} (P : Shared → Prop) (h : ∀ K : Bool → Shared → Prop, (∀ b s₁, ((b = true → wpAny (model PR w) A (execs body env) (fun f s₂ => f = .next ∧ P s₂) no s₁) ∧ (b = false → wpAny (model PR w) A (execs orelse env) (fun f s₂ => f = .next ∧ P s₂) no s₁)) → K b s₁) → wpAny (model PR w) A (isTrue test env (eval test env)) K no s)
    (k : ∀ s', P s' → wpAny (model PR w) A (execs rest env) Q no s') : wpAny (model PR w) A (execs (.If test body orelse pos :: rest) env) Q no s := x_if_to P (h _ fun _ _ x => x) k
theorem x_if_toW {test body orelse pos} {rest : List Stmt} {Q : Flow → Shared → Prop} (P : Shared → Prop) (h : ∀ (K : Bool → Shared → Prop) (W : Flow → Shared → Prop), (∀ s₂, P s₂ → W .next s₂) → (∀ b s₁, ((b = true → wpAny (model PR w) A (execs body env) W no s₁) ∧ (b = false → wpAny (model PR w) A (execs orelse env) W no s₁)) → K b s₁) → wpAny (model PR w) A (isTrue test env (eval test env)) K no s)
    (k : ∀ s', P s' → wpAny (model PR w) A (execs rest env) Q no s') : wpAny (model PR w) A (execs (.If test body orelse pos :: rest) env) Q no s := x_if_toK P (fun K hk => h K (fun f s₂ => f = .next ∧ P s₂) (fun _ p => ⟨rfl, p⟩) hk) k
theorem c_bi {id : String} {e : Expr} {rest : List Expr} {Q : Value → Shared → Prop} (h : wpAny (model PR w) A (spliced (backTo pos (starEach (e :: rest) env))) (fun vs s₁ => wpAny (model PR w) A (call (.builtin id) vs) Q no s₁) no s)
    (hp : (backTo pos (starEach (e :: rest) env)).any (·.1) = false := by rfl)
    (he : starEach (e :: rest) env = (false, eval e env) :: starEach rest env := by rfl) : wpAny (model PR w) A (callWith pos (.builtin id) [] (backTo pos (starEach (e :: rest) env)) []) Q no s := by
  refine callWith_builtin hp ?_
  rw [he] at h ⊢
  exact evalArgs_plain h
theorem l_len {a : Addr} {xs : List Value} {Q : Value → Shared → Prop} (D : Act B s₀ L l N P s) (ha : s.heap.IsList a xs.toArray) (hz : xs.length ≤ 1000) (h : ∀ s' t, Act B s₀ L l N P s' → Q (.int (xs.length : Int) t) s') :
    wpAny (model PR w) A (call (.builtin "len") [.ref a]) Q no s := by
  refine PyProof.Rows.len_list ha (by simp; first | with_reducible exact s60 ‹_› | lia | omega) ?_
  have := h _ (s.toks + 1) (D.tok (s.toks + 1 + 1))
  simpa using this
theorem l_item {value slice : Expr} {a : Addr} {xs : List Value} {i : Nat} {u : Tok} {x : Value} {Q : Value → Shared → Prop} (ha : s.heap.IsList a xs.toArray) (hx : xs[i]? = some x) (hz : xs.length ≤ 1000) (h : Q x s)
    (hs : subscripted slice false (.ref a) (.int (i : Int) u) = operate [.ref a, .int (i : Int) u] (getItem (.ref a) (.int (i : Int) u)) := by with_unfolding_all rfl) (hg : ∀ r, letTemporaryGo value (.ref a) r = pure () := by intro _; with_unfolding_all rfl) :
    wpAny (model PR w) A (subscriptTail value slice (.ref a) (.int (i : Int) u)) Q no s :=
  item_listL ha (by first | decide | assumption | exact a1 ‹_› | exact a2 ‹_› | exact a3 ‹_› (by decide) | exact dl ‹_› | exact ee ‹_› ‹_› | lia | omega) (by have := (List.getElem?_eq_some_iff.mp hx).1; first | with_reducible exact s61 ‹_› ‹_› | lia | omega) (by rwa [Int.toNat_natCast]) h hs hg
end
noncomputable def bis (p : Nat → Bool) : Nat → Nat → Nat → Nat
  | 0, lo, _ => lo
  | n + 1, lo, hi => if lo < hi then (if p ((lo + hi) / 2) then bis p n ((lo + hi) / 2 + 1) hi else bis p n lo ((lo + hi) / 2)) else lo


noncomputable abbrev Nats (xs : List Value) (ps : List Nat) : Prop := IntsAre xs (ps.map Int.ofNat)
theorem Nats.get {xs : List Value} {ps : List Nat} (h : Nats xs ps) {i p : Nat} (hi : ps[i]? = some p) : ∃ t, xs[i]? = some (.int (p : Int) t) :=
  IntsAre.get h i p (by rw [List.getElem?_map, hi]; rfl)
theorem Nats.len {xs : List Value} {ps : List Nat} (h : Nats xs ps) : xs.length = ps.length := by have := IntsAre.length h; rwa [List.length_map] at this

section
variable {w : World} {mg mb : Str → Option Value} {B : Heap} {A : Around} {s : Shared} {R : Result → Shared → Prop} {tx : List Nat} {sz : Nat}
noncomputable def IsHi (v : Value) (n hi : Nat) : Prop := (v = .none ∧ hi = n) ∨ (∃ t, v = Value.int (hi : Int) t)

theorem boot_len' : bootBuiltins (Str.ofString "len") = some (.builtin "len") := by decide +kernel
noncomputable abbrev keyOf (tx : List Nat) (sz p : Nat) : List Nat := (tx.take (p + sz)).drop p

end
noncomputable abbrev biL (k : Value) (h : Nat) (t2 : Tok) (lo : Nat) (t1 : Tok) (x : Value) (av : Addr) : List (Str × Value) := [(Str.ofString "key", k), (Str.ofString "hi", .int (h : Nat) t2), (Str.ofString "lo", .int (lo : Nat) t1), (Str.ofString "x", x), (Str.ofString "a", .ref av)]
section
variable {w : World} {mg mb : Str → Option Value} {B : Heap} {A : Around} {s : Shared} {R : Result → Shared → Prop} {tx : List Nat} {sz : Nat}
noncomputable def bLBody : List Stmt := match F62.1.body with | .stmts b => b | _ => []
theorem bisL_pre (G : Gnd w mg mb B) (O : Ok B s.heap) (r : Room 3 A) {av : Addr} {ps : List Nat} {xs : List Value} {kv xv hv : Value} {tlo : Tok} {lo hi : Nat} {s₁ : Shared} {Q : Flow → Shared → Prop} (ha : s.heap.IsList av xs.toArray) (hps : Nats xs ps) (hz : ps.length ≤ 1000) (hh : IsHi hv ps.length hi)
    (D : Act B s s.heap.objs.size [(Str.ofString "key", kv), (Str.ofString "hi", hv), (Str.ofString "lo", .int (lo : Int) tlo), (Str.ofString "x", xv), (Str.ofString "a", .ref av)] [] T0 s₁)
    (k : ∀ s2 thi, Act B s s.heap.objs.size (biL kv hi thi lo tlo xv av) [] T0 s2 → wpAny (model PR w) A (execs (bLBody.drop 2) (fenv F62.1 62 s.heap.objs.size)) Q no s2) :
    wpAny (model PR w) A (execs bLBody (fenv F62.1 62 s.heap.objs.size)) Q no s₁ := by
  refine x_ifK ?_
  intro K9 k9
  ((with_reducible refine wpAny_isTrue_Compare1 ?_ ?hm); (case hm => with_unfolding_all rfl))
  ((with_reducible refine' nmQ ?D ?v ?_ ?o ?L); (case L => exact rfl); (case o => exact Eq.refl true); (case D => assumption); (case v => exact rfl))
  ((with_reducible refine' e_int ?D ?_); (case D => assumption); intro _ _ _)
  (with_reducible refine o_lt ?_)
  (with_reducible refine wpAny_truthy_bool ?_)
  refine k9 _ _ ?_
  refine ⟨fun h => ?_, fun _ => ?_⟩
  · exfalso; have := of_decide_eq_true h; first | lia | omega
  refine x_nil ?_
  refine x_if_to (fun s' => ∃ t, Act B s s.heap.objs.size [(Str.ofString "key", kv), (Str.ofString "hi", .int (hi : Int) t), (Str.ofString "lo", .int (lo : Int) tlo), (Str.ofString "x", xv), (Str.ofString "a", .ref av)] [] T0 s') ?_ ?_
  · ((with_reducible refine wpAny_isTrue_Compare1 ?_ ?hm); (case hm => with_unfolding_all rfl))
    ((with_reducible refine' nmQ ?D ?v ?_ ?o ?L); (case L => exact rfl); (case o => exact Eq.refl true); (case D => assumption); (case v => exact rfl))
    (with_reducible refine e_none ?_)
    refine PyProof.Rows.is_none_gen ?_
    (with_reducible refine wpAny_truthy_bool ?_)
    rcases hh with ⟨rfl, rfl⟩ | ⟨t, rfl⟩
    · refine ⟨fun _ => ?_, fun h => (by cases h)⟩
      refine x_assignK ?_
      intro K9 k9
      refine wpAny_Call_Name_kw ?_
      refine nmB G (by assumption) b_len boot_len' (by rfl) ?_
      refine c_bi ?_
      ((with_reducible refine sp_cons ?_ ?he); (case he => exact rfl))
      ((with_reducible refine' nmQ ?D ?v ?_ ?o ?L); (case L => exact rfl); (case o => exact Eq.refl true); (case D => assumption); (case v => exact rfl))
      (with_reducible refine sp_nil ?_)
      refine l_len (by assumption) (Heap.IsList.ext ha O.tab (Act.ext (by assumption))) (by rw [hps.len]; first | assumption | lia | omega) ?_
      intro s' t D
      refine k9 _ _ ?_
      ((with_reducible refine' stL ?D ?_ ?hk ?hx ?hL); (case hL => exact rfl); (case D => assumption); (case hx => exact rfl); (case hk => exact rfl); intro _ _)
      refine x_nil ⟨rfl, t, ?_⟩
      rw [hps.len] at *
      assumption
    · exact ⟨fun h => (by cases h), fun _ => x_nil ⟨rfl, t, (by assumption)⟩⟩
  rintro s2 ⟨thi, D⟩
  exact k s2 thi D
theorem bisL_key (G : Gnd w mg mb B) (O : Ok B s.heap) (r : Room 4 A) {args : Args} {av kf : Addr} {ps : List Nat} {xs : List Value} {xt : List Nat} {tt tlo : Tok} {hv : Value} {lo hi : Nat}
    (hb : BindsTo s F62.1 args [(Str.ofString "a", .ref av), (Str.ofString "x", .str (S xt) tt), (Str.ofString "lo", .int (lo : Int) tlo), (Str.ofString "hi", hv), (Str.ofString "key", .ref kf)])
    (ha : s.heap.IsList av xs.toArray) (hps : Nats xs ps) (hz : ps.length ≤ 1000) (hzt : tx.length ≤ 1000) (hk : IsKey s.heap kf tx sz) (hh : IsHi hv ps.length hi) (hle : hi ≤ ps.length)
    (k : ∀ s' t, Aft s s' → R (.ok (.ret (.int (bis (fun i => decide (keyOf tx sz (ps.getD i 0) < xt)) hi lo hi : Nat) t))) s') :
    codeAny (model PR w) A (.call (.ref 62) args) R s := by
  refine enter (fd := F62.1) G O r (F62.2 w) cd62 rfl hb (by decide) (locs rfl) ?_
  intro A s₁ D r
  have hkn := hk.ne O.tab
  obtain ⟨ko, hko, kfd, hkd⟩ : ∃ o, s.heap.get? kf = some o ∧ ∃ fd, o.data = .func fd := by
    obtain ⟨c, ctv, pm, c1, c2, t1, t2, ho, _⟩ := hk
    exact ⟨_, ho, _, rfl⟩
  refine bisL_pre G O r ha hps hz hh D ?_
  clear D
  intro s2 thi D
  refine x_ifK ?_
  intro K9 k9
  ((with_reducible refine wpAny_isTrue_Compare1 ?_ ?hm); (case hm => with_unfolding_all rfl))
  ((with_reducible refine' nmQ ?D ?v ?_ ?o ?L); (case L => exact rfl); (case o => exact Eq.refl true); (case D => assumption); (case v => exact rfl))
  (with_reducible refine e_none ?_)
  refine PyProof.Rows.is_none_gen ?_
  (with_reducible refine wpAny_truthy_bool ?_)
  refine k9 _ _ ?_
  refine ⟨fun h => (by cases h), fun _ => ?_⟩
  refine x_whileW (fun n s' => ∃ lo' hi' t1 t2, Act B s s.heap.objs.size (biL (.ref kf) hi' t2 lo' t1 (.str (S xt) tt) av) [] T0 s' ∧
    hi' - lo' ≤ n ∧ hi' ≤ ps.length ∧ bis (fun i => decide (keyOf tx sz (ps.getD i 0) < xt)) n lo' hi' = bis (fun i => decide (keyOf tx sz (ps.getD i 0) < xt)) hi lo hi) ?_ hi ⟨lo, hi, _, _, D, by first | with_reducible exact Nat.sub_le _ _ | lia | omega, hle, rfl⟩
  rintro n s3 ⟨lo', hi', t1, t2, D, hn, hle', hbis⟩
  intro W1 z1 r1 K8 k8
  ((with_reducible refine wpAny_isTrue_Compare1 ?_ ?hm); (case hm => with_unfolding_all rfl))
  ((with_reducible refine' nmQ ?D ?v ?_ ?o ?L); (case L => exact rfl); (case o => exact Eq.refl true); (case D => assumption); (case v => exact rfl))
  ((with_reducible refine' nmQ ?D ?v ?_ ?o ?L); (case L => exact rfl); (case o => exact Eq.refl true); (case D => assumption); (case v => exact rfl))
  (with_reducible refine o_lt ?_)
  (with_reducible refine wpAny_truthy_bool ?_)
  refine k8 _ _ ?_
  refine ⟨fun h => ?_, fun h => ?_⟩
  · have hlt : lo' < hi' := by have := of_decide_eq_true h; first | with_reducible exact s18 ‹_› | lia | omega
    obtain ⟨m, rfl⟩ : ∃ m, n = m + 1 := ⟨n - 1, by first | with_reducible exact s36 ‹_› ‹_› | lia | omega⟩
    rw [bis, if_pos hlt] at hbis
    refine x_assignK ?_
    intro K9 k9
    (with_reducible refine wpAny_BinOp ?_)
    (with_reducible refine wpAny_BinOp ?_)
    ((with_reducible refine' nmQ ?D ?v ?_ ?o ?L); (case L => exact rfl); (case o => exact Eq.refl true); (case D => assumption); (case v => exact rfl))
    ((with_reducible refine' nmQ ?D ?v ?_ ?o ?L); (case L => exact rfl); (case o => exact Eq.refl true); (case D => assumption); (case v => exact rfl))
    refine o_add (by assumption) ?_
    intro s4 t4 D
    ((with_reducible refine' e_int ?D ?_); (case D => assumption); intro _ _ _)
    refine o_half (by assumption) ?_
    intro s5 t5 D
    refine k9 _ _ ?_
    ((with_reducible refine' stL ?D ?_ ?hk ?hx ?hL); (case hL => exact rfl); (case D => assumption); (case hx => exact rfl); (case hk => exact rfl); intro _ _)
    refine x_ifK ?_
    intro K9 k9
    ((with_reducible refine wpAny_isTrue_Compare1 ?_ ?hm); (case hm => with_unfolding_all rfl))
    have hmid : (lo' + hi') / 2 < ps.length := by first | with_reducible exact s35 ‹_› ‹_› | lia | omega
    obtain ⟨tm, hxm⟩ := Nats.get hps (List.getElem?_eq_getElem hmid)
    refine wpAny_Call_Name_kw ?_
    ((with_reducible refine' nmQ ?D ?v ?_ ?o ?L); (case L => exact rfl); (case o => exact Eq.refl true); (case D => assumption); (case v => exact rfl))
    refine c_ob hkd ?_
    ((with_reducible refine sp_cons ?_ ?he); (case he => exact rfl))
    (with_reducible refine Subscript_ ?_)
    ((with_reducible refine' nmQ ?D ?v ?_ ?o ?L); (case L => exact rfl); (case o => exact Eq.refl true); (case D => assumption); (case v => exact rfl))
    ((with_reducible refine' nmQ ?D ?v ?_ ?o ?L); (case L => exact rfl); (case o => exact Eq.refl true); (case D => assumption); (case v => exact rfl))
    refine l_item (Heap.IsList.ext ha O.tab (Act.ext (by assumption))) hxm (by rw [hps.len]; first | assumption | lia | omega) ?_
    (with_reducible refine sp_nil ?_)
    refine ⟨Act.ext (by assumption) _ _ hkn List.not_mem_nil hko, ?_⟩
    refine key_spec G (Act.ok (by assumption)) (r.weak (by decide)) (hk.ext (Act.ext (by assumption)) O.tab) hzt ?_
    intro s6 t6 X
    have D6 := Act.aft (by assumption) X
    ((with_reducible refine' nmQ ?D ?v ?_ ?o ?L); (case L => exact rfl); (case o => exact Eq.refl true); (case D => assumption); (case v => exact rfl))
    refine PyProof.Rows.lt_str ?_
    (with_reducible refine wpAny_truthy_bool ?_)
    have e0 : ps.getD ((lo' + hi') / 2) 0 = ps[(lo' + hi') / 2] := by simp [List.getD, hmid]
    rw [e0] at hbis
    refine k9 _ _ ?_
    refine ⟨fun h => ?_, fun h => ?_⟩
    · have h' : decide (keyOf tx sz ps[(lo' + hi') / 2] < xt) = true := h
      rw [if_pos h'] at hbis
      refine x_assignK ?_
      intro K9 k9
      (with_reducible refine wpAny_BinOp ?_)
      ((with_reducible refine' nmQ ?D ?v ?_ ?o ?L); (case L => exact rfl); (case o => exact Eq.refl true); (case D => assumption); (case v => exact rfl))
      ((with_reducible refine' e_int ?D ?_); (case D => assumption); intro _ _ _)
      refine o_addK (k := ((((lo' + hi') / 2 + 1 : Nat)) : Int)) (by first | rfl | lia | omega) (by assumption) ?_
      intro s7 t7 D
      refine k9 _ _ ?_
      ((with_reducible refine' stL ?D ?_ ?hk ?hx ?hL); (case hL => exact rfl); (case D => assumption); (case hx => exact rfl); (case hk => exact rfl); intro _ _)
      refine x_nil (x_nil ?_)
      refine z1 _ ?_
      refine ⟨m, by first | decide | assumption | exact a1 ‹_› | exact a2 ‹_› | exact a3 ‹_› (by decide) | exact dl ‹_› | exact ee ‹_› ‹_› | lia | omega, (lo' + hi') / 2 + 1, hi', _, _, Act.pre (by assumption), by first | with_reducible exact s33 ‹_› | lia | omega, hle', hbis⟩
    · have h' : decide (keyOf tx sz ps[(lo' + hi') / 2] < xt) = false := h
      rw [if_neg (ne_true_of_eq_false h')] at hbis
      refine x_assignK ?_
      intro K9 k9
      ((with_reducible refine' nmQ ?D ?v ?_ ?o ?L); (case L => exact rfl); (case o => exact Eq.refl true); (case D => assumption); (case v => exact rfl))
      refine k9 _ _ ?_
      ((with_reducible refine' stL ?D ?_ ?hk ?hx ?hL); (case hL => exact rfl); (case D => assumption); (case hx => exact rfl); (case hk => exact rfl); intro _ _)
      refine x_nil (x_nil ?_)
      refine z1 _ ?_
      refine ⟨m, by first | decide | assumption | exact a1 ‹_› | exact a2 ‹_› | exact a3 ‹_› (by decide) | exact dl ‹_› | exact ee ‹_› ‹_› | lia | omega, lo', (lo' + hi') / 2, _, _, Act.pre (by assumption), by first | with_reducible exact s34 ‹_› ‹_› | lia | omega, by first | decide | assumption | exact a1 ‹_› | exact a2 ‹_› | exact a3 ‹_› (by decide) | exact dl ‹_› | exact ee ‹_› ‹_› | lia | omega, hbis⟩
  · have hge : ¬ lo' < hi' := by have := of_decide_eq_false h; first | with_reducible exact s19 ‹_› | lia | omega
    have hres : bis (fun i => decide (keyOf tx sz (ps.getD i 0) < xt)) n lo' hi' = lo' := by
      cases n with
      | zero => rfl
      | succ n => rw [bis, if_neg hge]
    rw [hres] at hbis
    refine x_nil ?_
    refine x_ret ?_
    ((with_reducible refine' nmQ ?D ?v ?_ ?o ?L); (case L => exact rfl); (case o => exact Eq.refl true); (case D => assumption); (case v => exact rfl))
    rw [hbis]
    exact k _ _ (Act.done (by assumption))
noncomputable def bRBody : List Stmt := match F44.1.body with | .stmts b => b | _ => []
theorem bisR_pre (G : Gnd w mg mb B) (O : Ok B s.heap) (r : Room 3 A) {av : Addr} {ps : List Nat} {xs : List Value} {kv xv hv : Value} {tlo : Tok} {lo hi : Nat} {s₁ : Shared} {Q : Flow → Shared → Prop} (ha : s.heap.IsList av xs.toArray) (hps : Nats xs ps) (hz : ps.length ≤ 1000) (hh : IsHi hv ps.length hi)
    (D : Act B s s.heap.objs.size [(Str.ofString "key", kv), (Str.ofString "hi", hv), (Str.ofString "lo", .int (lo : Int) tlo), (Str.ofString "x", xv), (Str.ofString "a", .ref av)] [] T0 s₁)
    (k : ∀ s2 thi, Act B s s.heap.objs.size (biL kv hi thi lo tlo xv av) [] T0 s2 → wpAny (model PR w) A (execs (bRBody.drop 2) (fenv F44.1 44 s.heap.objs.size)) Q no s2) :
    wpAny (model PR w) A (execs bRBody (fenv F44.1 44 s.heap.objs.size)) Q no s₁ := by
  refine x_ifK ?_
  intro K9 k9
  ((with_reducible refine wpAny_isTrue_Compare1 ?_ ?hm); (case hm => with_unfolding_all rfl))
  ((with_reducible refine' nmQ ?D ?v ?_ ?o ?L); (case L => exact rfl); (case o => exact Eq.refl true); (case D => assumption); (case v => exact rfl))
  ((with_reducible refine' e_int ?D ?_); (case D => assumption); intro _ _ _)
  (with_reducible refine o_lt ?_)
  (with_reducible refine wpAny_truthy_bool ?_)
  refine k9 _ _ ?_
  refine ⟨fun h => ?_, fun _ => ?_⟩
  · exfalso; have := of_decide_eq_true h; first | lia | omega
  refine x_nil ?_
  refine x_if_to (fun s' => ∃ t, Act B s s.heap.objs.size [(Str.ofString "key", kv), (Str.ofString "hi", .int (hi : Int) t), (Str.ofString "lo", .int (lo : Int) tlo), (Str.ofString "x", xv), (Str.ofString "a", .ref av)] [] T0 s') ?_ ?_
  · ((with_reducible refine wpAny_isTrue_Compare1 ?_ ?hm); (case hm => with_unfolding_all rfl))
    ((with_reducible refine' nmQ ?D ?v ?_ ?o ?L); (case L => exact rfl); (case o => exact Eq.refl true); (case D => assumption); (case v => exact rfl))
    (with_reducible refine e_none ?_)
    refine PyProof.Rows.is_none_gen ?_
    (with_reducible refine wpAny_truthy_bool ?_)
    rcases hh with ⟨rfl, rfl⟩ | ⟨t, rfl⟩
    · refine ⟨fun _ => ?_, fun h => (by cases h)⟩
      refine x_assignK ?_
      intro K9 k9
      refine wpAny_Call_Name_kw ?_
      refine nmB G (by assumption) b_len boot_len' (by rfl) ?_
      refine c_bi ?_
      ((with_reducible refine sp_cons ?_ ?he); (case he => exact rfl))
      ((with_reducible refine' nmQ ?D ?v ?_ ?o ?L); (case L => exact rfl); (case o => exact Eq.refl true); (case D => assumption); (case v => exact rfl))
      (with_reducible refine sp_nil ?_)
      refine l_len (by assumption) (Heap.IsList.ext ha O.tab (Act.ext (by assumption))) (by rw [hps.len]; first | assumption | lia | omega) ?_
      intro s' t D
      refine k9 _ _ ?_
      ((with_reducible refine' stL ?D ?_ ?hk ?hx ?hL); (case hL => exact rfl); (case D => assumption); (case hx => exact rfl); (case hk => exact rfl); intro _ _)
      refine x_nil ⟨rfl, t, ?_⟩
      rw [hps.len] at *
      assumption
    · exact ⟨fun h => (by cases h), fun _ => x_nil ⟨rfl, t, (by assumption)⟩⟩
  rintro s2 ⟨thi, D⟩
  exact k s2 thi D
theorem bisR_key (G : Gnd w mg mb B) (O : Ok B s.heap) (r : Room 4 A) {args : Args} {av kf : Addr} {ps : List Nat} {xs : List Value} {xt : List Nat} {tt tlo : Tok} {hv : Value} {lo hi : Nat}
    (hb : BindsTo s F44.1 args [(Str.ofString "a", .ref av), (Str.ofString "x", .str (S xt) tt), (Str.ofString "lo", .int (lo : Int) tlo), (Str.ofString "hi", hv), (Str.ofString "key", .ref kf)])
    (ha : s.heap.IsList av xs.toArray) (hps : Nats xs ps) (hz : ps.length ≤ 1000) (hzt : tx.length ≤ 1000) (hk : IsKey s.heap kf tx sz) (hh : IsHi hv ps.length hi) (hle : hi ≤ ps.length)
    (k : ∀ s' t, Aft s s' → R (.ok (.ret (.int (bis (fun i => !decide (xt < keyOf tx sz (ps.getD i 0))) hi lo hi : Nat) t))) s') :
    codeAny (model PR w) A (.call (.ref 44) args) R s := by
  refine enter (fd := F44.1) G O r (F44.2 w) cd44 rfl hb (by decide) (locs rfl) ?_
  intro A s₁ D r
  have hkn := hk.ne O.tab
  obtain ⟨ko, hko, kfd, hkd⟩ : ∃ o, s.heap.get? kf = some o ∧ ∃ fd, o.data = .func fd := by
    obtain ⟨c, ctv, pm, c1, c2, t1, t2, ho, _⟩ := hk
    exact ⟨_, ho, _, rfl⟩
  refine bisR_pre G O r ha hps hz hh D ?_
  clear D
  intro s2 thi D
  refine x_ifK ?_
  intro K9 k9
  ((with_reducible refine wpAny_isTrue_Compare1 ?_ ?hm); (case hm => with_unfolding_all rfl))
  ((with_reducible refine' nmQ ?D ?v ?_ ?o ?L); (case L => exact rfl); (case o => exact Eq.refl true); (case D => assumption); (case v => exact rfl))
  (with_reducible refine e_none ?_)
  refine PyProof.Rows.is_none_gen ?_
  (with_reducible refine wpAny_truthy_bool ?_)
  refine k9 _ _ ?_
  refine ⟨fun h => (by cases h), fun _ => ?_⟩
  refine x_whileW (fun n s' => ∃ lo' hi' t1 t2, Act B s s.heap.objs.size (biL (.ref kf) hi' t2 lo' t1 (.str (S xt) tt) av) [] T0 s' ∧
    hi' - lo' ≤ n ∧ hi' ≤ ps.length ∧ bis (fun i => !decide (xt < keyOf tx sz (ps.getD i 0))) n lo' hi' = bis (fun i => !decide (xt < keyOf tx sz (ps.getD i 0))) hi lo hi) ?_ hi ⟨lo, hi, _, _, D, by first | with_reducible exact Nat.sub_le _ _ | lia | omega, hle, rfl⟩
  rintro n s3 ⟨lo', hi', t1, t2, D, hn, hle', hbis⟩
  intro W1 z1 r1 K8 k8
  ((with_reducible refine wpAny_isTrue_Compare1 ?_ ?hm); (case hm => with_unfolding_all rfl))
  ((with_reducible refine' nmQ ?D ?v ?_ ?o ?L); (case L => exact rfl); (case o => exact Eq.refl true); (case D => assumption); (case v => exact rfl))
  ((with_reducible refine' nmQ ?D ?v ?_ ?o ?L); (case L => exact rfl); (case o => exact Eq.refl true); (case D => assumption); (case v => exact rfl))
  (with_reducible refine o_lt ?_)
  (with_reducible refine wpAny_truthy_bool ?_)
  refine k8 _ _ ?_
  refine ⟨fun h => ?_, fun h => ?_⟩
  · have hlt : lo' < hi' := by have := of_decide_eq_true h; first | with_reducible exact s18 ‹_› | lia | omega
    obtain ⟨m, rfl⟩ : ∃ m, n = m + 1 := ⟨n - 1, by first | with_reducible exact s36 ‹_› ‹_› | lia | omega⟩
    rw [bis, if_pos hlt] at hbis
    refine x_assignK ?_
    intro K9 k9
    (with_reducible refine wpAny_BinOp ?_)
    (with_reducible refine wpAny_BinOp ?_)
    ((with_reducible refine' nmQ ?D ?v ?_ ?o ?L); (case L => exact rfl); (case o => exact Eq.refl true); (case D => assumption); (case v => exact rfl))
    ((with_reducible refine' nmQ ?D ?v ?_ ?o ?L); (case L => exact rfl); (case o => exact Eq.refl true); (case D => assumption); (case v => exact rfl))
    refine o_add (by assumption) ?_
    intro s4 t4 D
    ((with_reducible refine' e_int ?D ?_); (case D => assumption); intro _ _ _)
    refine o_half (by assumption) ?_
    intro s5 t5 D
    refine k9 _ _ ?_
    ((with_reducible refine' stL ?D ?_ ?hk ?hx ?hL); (case hL => exact rfl); (case D => assumption); (case hx => exact rfl); (case hk => exact rfl); intro _ _)
    refine x_ifK ?_
    intro K9 k9
    ((with_reducible refine wpAny_isTrue_Compare1 ?_ ?hm); (case hm => with_unfolding_all rfl))
    have hmid : (lo' + hi') / 2 < ps.length := by first | with_reducible exact s35 ‹_› ‹_› | lia | omega
    obtain ⟨tm, hxm⟩ := Nats.get hps (List.getElem?_eq_getElem hmid)
    ((with_reducible refine' nmQ ?D ?v ?_ ?o ?L); (case L => exact rfl); (case o => exact Eq.refl true); (case D => assumption); (case v => exact rfl))
    refine wpAny_Call_Name_kw ?_
    ((with_reducible refine' nmQ ?D ?v ?_ ?o ?L); (case L => exact rfl); (case o => exact Eq.refl true); (case D => assumption); (case v => exact rfl))
    refine c_ob hkd ?_
    ((with_reducible refine sp_cons ?_ ?he); (case he => exact rfl))
    (with_reducible refine Subscript_ ?_)
    ((with_reducible refine' nmQ ?D ?v ?_ ?o ?L); (case L => exact rfl); (case o => exact Eq.refl true); (case D => assumption); (case v => exact rfl))
    ((with_reducible refine' nmQ ?D ?v ?_ ?o ?L); (case L => exact rfl); (case o => exact Eq.refl true); (case D => assumption); (case v => exact rfl))
    refine l_item (Heap.IsList.ext ha O.tab (Act.ext (by assumption))) hxm (by rw [hps.len]; first | assumption | lia | omega) ?_
    (with_reducible refine sp_nil ?_)
    refine ⟨Act.ext (by assumption) _ _ hkn List.not_mem_nil hko, ?_⟩
    refine key_spec G (Act.ok (by assumption)) (r.weak (by decide)) (hk.ext (Act.ext (by assumption)) O.tab) hzt ?_
    intro s6 t6 X
    have D6 := Act.aft (by assumption) X
    refine PyProof.Rows.lt_str ?_
    (with_reducible refine wpAny_truthy_bool ?_)
    have e0 : ps.getD ((lo' + hi') / 2) 0 = ps[(lo' + hi') / 2] := by simp [List.getD, hmid]
    rw [e0] at hbis
    refine k9 _ _ ?_
    refine ⟨fun h => ?_, fun h => ?_⟩
    · have h' : decide (xt < keyOf tx sz ps[(lo' + hi') / 2]) = true := h
      rw [h', if_neg (by decide)] at hbis
      refine x_assignK ?_
      intro K9 k9
      ((with_reducible refine' nmQ ?D ?v ?_ ?o ?L); (case L => exact rfl); (case o => exact Eq.refl true); (case D => assumption); (case v => exact rfl))
      refine k9 _ _ ?_
      ((with_reducible refine' stL ?D ?_ ?hk ?hx ?hL); (case hL => exact rfl); (case D => assumption); (case hx => exact rfl); (case hk => exact rfl); intro _ _)
      refine x_nil (x_nil ?_)
      refine z1 _ ?_
      refine ⟨m, by first | decide | assumption | exact a1 ‹_› | exact a2 ‹_› | exact a3 ‹_› (by decide) | exact dl ‹_› | exact ee ‹_› ‹_› | lia | omega, lo', (lo' + hi') / 2, _, _, Act.pre (by assumption), by first | with_reducible exact s34 ‹_› ‹_› | lia | omega, by first | decide | assumption | exact a1 ‹_› | exact a2 ‹_› | exact a3 ‹_› (by decide) | exact dl ‹_› | exact ee ‹_› ‹_› | lia | omega, hbis⟩
    · have h' : decide (xt < keyOf tx sz ps[(lo' + hi') / 2]) = false := h
      rw [h', if_pos (by decide)] at hbis
      refine x_assignK ?_
      intro K9 k9
      (with_reducible refine wpAny_BinOp ?_)
      ((with_reducible refine' nmQ ?D ?v ?_ ?o ?L); (case L => exact rfl); (case o => exact Eq.refl true); (case D => assumption); (case v => exact rfl))
      ((with_reducible refine' e_int ?D ?_); (case D => assumption); intro _ _ _)
      refine o_addK (k := ((((lo' + hi') / 2 + 1 : Nat)) : Int)) (by first | rfl | lia | omega) (by assumption) ?_
      intro s7 t7 D
      refine k9 _ _ ?_
      ((with_reducible refine' stL ?D ?_ ?hk ?hx ?hL); (case hL => exact rfl); (case D => assumption); (case hx => exact rfl); (case hk => exact rfl); intro _ _)
      refine x_nil (x_nil ?_)
      refine z1 _ ?_
      refine ⟨m, by first | decide | assumption | exact a1 ‹_› | exact a2 ‹_› | exact a3 ‹_› (by decide) | exact dl ‹_› | exact ee ‹_› ‹_› | lia | omega, (lo' + hi') / 2 + 1, hi', _, _, Act.pre (by assumption), by first | with_reducible exact s33 ‹_› | lia | omega, hle', hbis⟩
  · have hge : ¬ lo' < hi' := by have := of_decide_eq_false h; first | with_reducible exact s19 ‹_› | lia | omega
    have hres : bis (fun i => !decide (xt < keyOf tx sz (ps.getD i 0))) n lo' hi' = lo' := by
      cases n with
      | zero => rfl
      | succ n => rw [bis, if_neg hge]
    rw [hres] at hbis
    refine x_nil ?_
    refine x_ret ?_
    ((with_reducible refine' nmQ ?D ?v ?_ ?o ?L); (case L => exact rfl); (case o => exact Eq.refl true); (case D => assumption); (case v => exact rfl))
    rw [hbis]
    exact k _ _ (Act.done (by assumption))
theorem bisL_int (G : Gnd w mg mb B) (O : Ok B s.heap) (r : Room 4 A) {args : Args} {av : Addr} {ps : List Nat} {xs : List Value} {x : Nat} {tt tlo : Tok} {hv : Value} {lo hi : Nat}
    (hb : BindsTo s F62.1 args [(Str.ofString "a", .ref av), (Str.ofString "x", .int (x : Int) tt), (Str.ofString "lo", .int (lo : Int) tlo), (Str.ofString "hi", hv), (Str.ofString "key", .none)])
    (ha : s.heap.IsList av xs.toArray) (hps : Nats xs ps) (hz : ps.length ≤ 1000) (hh : IsHi hv ps.length hi) (hle : hi ≤ ps.length)
    (k : ∀ s' t, Aft s s' → R (.ok (.ret (.int (bis (fun i => decide (ps.getD i 0 < x)) hi lo hi : Nat) t))) s') :
    codeAny (model PR w) A (.call (.ref 62) args) R s := by
  refine enter (fd := F62.1) G O r (F62.2 w) cd62 rfl hb (by decide) (locs rfl) ?_
  intro A s₁ D r
  refine bisL_pre G O r ha hps hz hh D ?_
  clear D
  intro s2 thi D
  refine x_ifK ?_
  intro K9 k9
  ((with_reducible refine wpAny_isTrue_Compare1 ?_ ?hm); (case hm => with_unfolding_all rfl))
  ((with_reducible refine' nmQ ?D ?v ?_ ?o ?L); (case L => exact rfl); (case o => exact Eq.refl true); (case D => assumption); (case v => exact rfl))
  (with_reducible refine e_none ?_)
  refine PyProof.Rows.is_none_gen ?_
  (with_reducible refine wpAny_truthy_bool ?_)
  refine k9 _ _ ?_
  refine ⟨fun _ => ?_, fun h => (by cases h)⟩
  refine x_whileW (fun n s' => ∃ lo' hi' t1 t2, Act B s s.heap.objs.size (biL .none hi' t2 lo' t1 (.int (x : Int) tt) av) [] T0 s' ∧
    hi' - lo' ≤ n ∧ hi' ≤ ps.length ∧ bis (fun i => decide (ps.getD i 0 < x)) n lo' hi' = bis (fun i => decide (ps.getD i 0 < x)) hi lo hi) ?_ hi ⟨lo, hi, _, _, D, by first | with_reducible exact Nat.sub_le _ _ | lia | omega, hle, rfl⟩
  rintro n s3 ⟨lo', hi', t1, t2, D, hn, hle', hbis⟩
  intro W1 z1 r1 K8 k8
  ((with_reducible refine wpAny_isTrue_Compare1 ?_ ?hm); (case hm => with_unfolding_all rfl))
  ((with_reducible refine' nmQ ?D ?v ?_ ?o ?L); (case L => exact rfl); (case o => exact Eq.refl true); (case D => assumption); (case v => exact rfl))
  ((with_reducible refine' nmQ ?D ?v ?_ ?o ?L); (case L => exact rfl); (case o => exact Eq.refl true); (case D => assumption); (case v => exact rfl))
  (with_reducible refine o_lt ?_)
  (with_reducible refine wpAny_truthy_bool ?_)
  refine k8 _ _ ?_
  refine ⟨fun h => ?_, fun h => ?_⟩
  · have hlt : lo' < hi' := by have := of_decide_eq_true h; first | with_reducible exact s18 ‹_› | lia | omega
    obtain ⟨m, rfl⟩ : ∃ m, n = m + 1 := ⟨n - 1, by first | with_reducible exact s36 ‹_› ‹_› | lia | omega⟩
    rw [bis, if_pos hlt] at hbis
    refine x_assignK ?_
    intro K9 k9
    (with_reducible refine wpAny_BinOp ?_)
    (with_reducible refine wpAny_BinOp ?_)
    ((with_reducible refine' nmQ ?D ?v ?_ ?o ?L); (case L => exact rfl); (case o => exact Eq.refl true); (case D => assumption); (case v => exact rfl))
    ((with_reducible refine' nmQ ?D ?v ?_ ?o ?L); (case L => exact rfl); (case o => exact Eq.refl true); (case D => assumption); (case v => exact rfl))
    refine o_add (by assumption) ?_
    intro s4 t4 D
    ((with_reducible refine' e_int ?D ?_); (case D => assumption); intro _ _ _)
    refine o_half (by assumption) ?_
    intro s5 t5 D
    refine k9 _ _ ?_
    ((with_reducible refine' stL ?D ?_ ?hk ?hx ?hL); (case hL => exact rfl); (case D => assumption); (case hx => exact rfl); (case hk => exact rfl); intro _ _)
    refine x_ifK ?_
    intro K9 k9
    ((with_reducible refine wpAny_isTrue_Compare1 ?_ ?hm); (case hm => with_unfolding_all rfl))
    have hmid : (lo' + hi') / 2 < ps.length := by first | with_reducible exact s35 ‹_› ‹_› | lia | omega
    obtain ⟨tm, hxm⟩ := Nats.get hps (List.getElem?_eq_getElem hmid)
    (with_reducible refine Subscript_ ?_)
    ((with_reducible refine' nmQ ?D ?v ?_ ?o ?L); (case L => exact rfl); (case o => exact Eq.refl true); (case D => assumption); (case v => exact rfl))
    ((with_reducible refine' nmQ ?D ?v ?_ ?o ?L); (case L => exact rfl); (case o => exact Eq.refl true); (case D => assumption); (case v => exact rfl))
    refine l_item (Heap.IsList.ext ha O.tab (Act.ext (by assumption))) hxm (by rw [hps.len]; first | assumption | lia | omega) ?_
    ((with_reducible refine' nmQ ?D ?v ?_ ?o ?L); (case L => exact rfl); (case o => exact Eq.refl true); (case D => assumption); (case v => exact rfl))
    refine o_lt ?_
    (with_reducible refine wpAny_truthy_bool ?_)
    have e0 : ps.getD ((lo' + hi') / 2) 0 = ps[(lo' + hi') / 2] := by simp [List.getD, hmid]
    rw [e0] at hbis
    refine k9 _ _ ?_
    refine ⟨fun h => ?_, fun h => ?_⟩
    · have h' : decide (ps[(lo' + hi') / 2] < x) = true := by have := of_decide_eq_true h; exact decide_eq_true (by first | with_reducible exact s18 ‹_› | lia | omega)
      rw [if_pos h'] at hbis
      refine x_assignK ?_
      intro K9 k9
      (with_reducible refine wpAny_BinOp ?_)
      ((with_reducible refine' nmQ ?D ?v ?_ ?o ?L); (case L => exact rfl); (case o => exact Eq.refl true); (case D => assumption); (case v => exact rfl))
      ((with_reducible refine' e_int ?D ?_); (case D => assumption); intro _ _ _)
      refine o_addK (k := ((((lo' + hi') / 2 + 1 : Nat)) : Int)) (by first | rfl | lia | omega) (by assumption) ?_
      intro s7 t7 D
      refine k9 _ _ ?_
      ((with_reducible refine' stL ?D ?_ ?hk ?hx ?hL); (case hL => exact rfl); (case D => assumption); (case hx => exact rfl); (case hk => exact rfl); intro _ _)
      refine x_nil (x_nil ?_)
      refine z1 _ ?_
      refine ⟨m, by first | decide | assumption | exact a1 ‹_› | exact a2 ‹_› | exact a3 ‹_› (by decide) | exact dl ‹_› | exact ee ‹_› ‹_› | lia | omega, (lo' + hi') / 2 + 1, hi', _, _, Act.pre (by assumption), by first | with_reducible exact s33 ‹_› | lia | omega, hle', hbis⟩
    · have h' : decide (ps[(lo' + hi') / 2] < x) = false := by have := of_decide_eq_false h; exact decide_eq_false (by first | with_reducible exact s19 ‹_› | lia | omega)
      rw [if_neg (ne_true_of_eq_false h')] at hbis
      refine x_assignK ?_
      intro K9 k9
      ((with_reducible refine' nmQ ?D ?v ?_ ?o ?L); (case L => exact rfl); (case o => exact Eq.refl true); (case D => assumption); (case v => exact rfl))
      refine k9 _ _ ?_
      ((with_reducible refine' stL ?D ?_ ?hk ?hx ?hL); (case hL => exact rfl); (case D => assumption); (case hx => exact rfl); (case hk => exact rfl); intro _ _)
      refine x_nil (x_nil ?_)
      refine z1 _ ?_
      refine ⟨m, by first | decide | assumption | exact a1 ‹_› | exact a2 ‹_› | exact a3 ‹_› (by decide) | exact dl ‹_› | exact ee ‹_› ‹_› | lia | omega, lo', (lo' + hi') / 2, _, _, Act.pre (by assumption), by first | with_reducible exact s34 ‹_› ‹_› | lia | omega, by first | decide | assumption | exact a1 ‹_› | exact a2 ‹_› | exact a3 ‹_› (by decide) | exact dl ‹_› | exact ee ‹_› ‹_› | lia | omega, hbis⟩
  · have hge : ¬ lo' < hi' := by have := of_decide_eq_false h; first | with_reducible exact s19 ‹_› | lia | omega
    have hres : bis (fun i => decide (ps.getD i 0 < x)) n lo' hi' = lo' := by
      cases n with
      | zero => rfl
      | succ n => rw [bis, if_neg hge]
    rw [hres] at hbis
    refine x_nil ?_
    refine x_ret ?_
    ((with_reducible refine' nmQ ?D ?v ?_ ?o ?L); (case L => exact rfl); (case o => exact Eq.refl true); (case D => assumption); (case v => exact rfl))
    rw [hbis]
    exact k _ _ (Act.done (by assumption))
theorem bisR_int (G : Gnd w mg mb B) (O : Ok B s.heap) (r : Room 4 A) {args : Args} {av : Addr} {ps : List Nat} {xs : List Value} {x : Nat} {tt tlo : Tok} {hv : Value} {lo hi : Nat}
    (hb : BindsTo s F44.1 args [(Str.ofString "a", .ref av), (Str.ofString "x", .int (x : Int) tt), (Str.ofString "lo", .int (lo : Int) tlo), (Str.ofString "hi", hv), (Str.ofString "key", .none)])
    (ha : s.heap.IsList av xs.toArray) (hps : Nats xs ps) (hz : ps.length ≤ 1000) (hh : IsHi hv ps.length hi) (hle : hi ≤ ps.length)
    (k : ∀ s' t, Aft s s' → R (.ok (.ret (.int (bis (fun i => !decide (x < ps.getD i 0)) hi lo hi : Nat) t))) s') :
    codeAny (model PR w) A (.call (.ref 44) args) R s := by
  refine enter (fd := F44.1) G O r (F44.2 w) cd44 rfl hb (by decide) (locs rfl) ?_
  intro A s₁ D r
  refine bisR_pre G O r ha hps hz hh D ?_
  clear D
  intro s2 thi D
  refine x_ifK ?_
  intro K9 k9
  ((with_reducible refine wpAny_isTrue_Compare1 ?_ ?hm); (case hm => with_unfolding_all rfl))
  ((with_reducible refine' nmQ ?D ?v ?_ ?o ?L); (case L => exact rfl); (case o => exact Eq.refl true); (case D => assumption); (case v => exact rfl))
  (with_reducible refine e_none ?_)
  refine PyProof.Rows.is_none_gen ?_
  (with_reducible refine wpAny_truthy_bool ?_)
  refine k9 _ _ ?_
  refine ⟨fun _ => ?_, fun h => (by cases h)⟩
  refine x_whileW (fun n s' => ∃ lo' hi' t1 t2, Act B s s.heap.objs.size (biL .none hi' t2 lo' t1 (.int (x : Int) tt) av) [] T0 s' ∧
    hi' - lo' ≤ n ∧ hi' ≤ ps.length ∧ bis (fun i => !decide (x < ps.getD i 0)) n lo' hi' = bis (fun i => !decide (x < ps.getD i 0)) hi lo hi) ?_ hi ⟨lo, hi, _, _, D, by first | with_reducible exact Nat.sub_le _ _ | lia | omega, hle, rfl⟩
  rintro n s3 ⟨lo', hi', t1, t2, D, hn, hle', hbis⟩
  intro W1 z1 r1 K8 k8
  ((with_reducible refine wpAny_isTrue_Compare1 ?_ ?hm); (case hm => with_unfolding_all rfl))
  ((with_reducible refine' nmQ ?D ?v ?_ ?o ?L); (case L => exact rfl); (case o => exact Eq.refl true); (case D => assumption); (case v => exact rfl))
  ((with_reducible refine' nmQ ?D ?v ?_ ?o ?L); (case L => exact rfl); (case o => exact Eq.refl true); (case D => assumption); (case v => exact rfl))
  (with_reducible refine o_lt ?_)
  (with_reducible refine wpAny_truthy_bool ?_)
  refine k8 _ _ ?_
  refine ⟨fun h => ?_, fun h => ?_⟩
  · have hlt : lo' < hi' := by have := of_decide_eq_true h; first | with_reducible exact s18 ‹_› | lia | omega
    obtain ⟨m, rfl⟩ : ∃ m, n = m + 1 := ⟨n - 1, by first | with_reducible exact s36 ‹_› ‹_› | lia | omega⟩
    rw [bis, if_pos hlt] at hbis
    refine x_assignK ?_
    intro K9 k9
    (with_reducible refine wpAny_BinOp ?_)
    (with_reducible refine wpAny_BinOp ?_)
    ((with_reducible refine' nmQ ?D ?v ?_ ?o ?L); (case L => exact rfl); (case o => exact Eq.refl true); (case D => assumption); (case v => exact rfl))
    ((with_reducible refine' nmQ ?D ?v ?_ ?o ?L); (case L => exact rfl); (case o => exact Eq.refl true); (case D => assumption); (case v => exact rfl))
    refine o_add (by assumption) ?_
    intro s4 t4 D
    ((with_reducible refine' e_int ?D ?_); (case D => assumption); intro _ _ _)
    refine o_half (by assumption) ?_
    intro s5 t5 D
    refine k9 _ _ ?_
    ((with_reducible refine' stL ?D ?_ ?hk ?hx ?hL); (case hL => exact rfl); (case D => assumption); (case hx => exact rfl); (case hk => exact rfl); intro _ _)
    refine x_ifK ?_
    intro K9 k9
    ((with_reducible refine wpAny_isTrue_Compare1 ?_ ?hm); (case hm => with_unfolding_all rfl))
    have hmid : (lo' + hi') / 2 < ps.length := by first | with_reducible exact s35 ‹_› ‹_› | lia | omega
    obtain ⟨tm, hxm⟩ := Nats.get hps (List.getElem?_eq_getElem hmid)
    ((with_reducible refine' nmQ ?D ?v ?_ ?o ?L); (case L => exact rfl); (case o => exact Eq.refl true); (case D => assumption); (case v => exact rfl))
    (with_reducible refine Subscript_ ?_)
    ((with_reducible refine' nmQ ?D ?v ?_ ?o ?L); (case L => exact rfl); (case o => exact Eq.refl true); (case D => assumption); (case v => exact rfl))
    ((with_reducible refine' nmQ ?D ?v ?_ ?o ?L); (case L => exact rfl); (case o => exact Eq.refl true); (case D => assumption); (case v => exact rfl))
    refine l_item (Heap.IsList.ext ha O.tab (Act.ext (by assumption))) hxm (by rw [hps.len]; first | assumption | lia | omega) ?_
    refine o_lt ?_
    (with_reducible refine wpAny_truthy_bool ?_)
    have e0 : ps.getD ((lo' + hi') / 2) 0 = ps[(lo' + hi') / 2] := by simp [List.getD, hmid]
    rw [e0] at hbis
    refine k9 _ _ ?_
    refine ⟨fun h => ?_, fun h => ?_⟩
    · have h' : decide (x < ps[(lo' + hi') / 2]) = true := by have := of_decide_eq_true h; exact decide_eq_true (by first | with_reducible exact s18 ‹_› | lia | omega)
      rw [h', if_neg (by decide)] at hbis
      refine x_assignK ?_
      intro K9 k9
      ((with_reducible refine' nmQ ?D ?v ?_ ?o ?L); (case L => exact rfl); (case o => exact Eq.refl true); (case D => assumption); (case v => exact rfl))
      refine k9 _ _ ?_
      ((with_reducible refine' stL ?D ?_ ?hk ?hx ?hL); (case hL => exact rfl); (case D => assumption); (case hx => exact rfl); (case hk => exact rfl); intro _ _)
      refine x_nil (x_nil ?_)
      refine z1 _ ?_
      refine ⟨m, by first | decide | assumption | exact a1 ‹_› | exact a2 ‹_› | exact a3 ‹_› (by decide) | exact dl ‹_› | exact ee ‹_› ‹_› | lia | omega, lo', (lo' + hi') / 2, _, _, Act.pre (by assumption), by first | with_reducible exact s34 ‹_› ‹_› | lia | omega, by first | decide | assumption | exact a1 ‹_› | exact a2 ‹_› | exact a3 ‹_› (by decide) | exact dl ‹_› | exact ee ‹_› ‹_› | lia | omega, hbis⟩
    · have h' : decide (x < ps[(lo' + hi') / 2]) = false := by have := of_decide_eq_false h; exact decide_eq_false (by first | with_reducible exact s19 ‹_› | lia | omega)
      rw [h', if_pos (by decide)] at hbis
      refine x_assignK ?_
      intro K9 k9
      (with_reducible refine wpAny_BinOp ?_)
      ((with_reducible refine' nmQ ?D ?v ?_ ?o ?L); (case L => exact rfl); (case o => exact Eq.refl true); (case D => assumption); (case v => exact rfl))
      ((with_reducible refine' e_int ?D ?_); (case D => assumption); intro _ _ _)
      refine o_addK (k := ((((lo' + hi') / 2 + 1 : Nat)) : Int)) (by first | rfl | lia | omega) (by assumption) ?_
      intro s7 t7 D
      refine k9 _ _ ?_
      ((with_reducible refine' stL ?D ?_ ?hk ?hx ?hL); (case hL => exact rfl); (case D => assumption); (case hx => exact rfl); (case hk => exact rfl); intro _ _)
      refine x_nil (x_nil ?_)
      refine z1 _ ?_
      refine ⟨m, by first | decide | assumption | exact a1 ‹_› | exact a2 ‹_› | exact a3 ‹_› (by decide) | exact dl ‹_› | exact ee ‹_› ‹_› | lia | omega, (lo' + hi') / 2 + 1, hi', _, _, Act.pre (by assumption), by first | with_reducible exact s33 ‹_› | lia | omega, hle', hbis⟩
  · have hge : ¬ lo' < hi' := by have := of_decide_eq_false h; first | with_reducible exact s19 ‹_› | lia | omega
    have hres : bis (fun i => !decide (x < ps.getD i 0)) n lo' hi' = lo' := by
      cases n with
      | zero => rfl
      | succ n => rw [bis, if_neg hge]
    rw [hres] at hbis
    refine x_nil ?_
    refine x_ret ?_
    ((with_reducible refine' nmQ ?D ?v ?_ ?o ?L); (case L => exact rfl); (case o => exact Eq.refl true); (case D => assumption); (case v => exact rfl))
    rw [hbis]
    exact k _ _ (Act.done (by assumption))
end
noncomputable abbrev lst (xs : List Value) (n : Nat) : Obj := { cls := .type "list", data := .seq xs.toArray n }
theorem lst_is {h : Heap} {a : Addr} {xs : List Value} {n : Nat} (e : h.get? a = some (lst xs n)) : h.IsList a xs.toArray := ⟨_, e, rfl, n, rfl⟩
theorem upd_lst {h : Heap} {a : Addr} {xs ys : List Value} {n : Nat} (e : h.get? a = some (lst xs n)) (f : Array Value → Array Value) (hf : f xs.toArray = ys.toArray) : ∃ n', (h.update a (Obj.mapSeq f)).get? a = some (lst ys n') := by
  have q := PySem.IsL.update (show PySem.IsL h a xs.toArray n from e) f
  rw [hf] at q
  exact ⟨_, q⟩
theorem upd_other {h : Heap} {a : Addr} (f : Obj → Obj) : ∀ b o, b ≠ a → h.get? b = some o → (h.update a f).get? b = some o := fun b o hb e => (Heap.get?_update_other h f (Ne.symm hb)).trans e

section
variable {w : World} {B : Heap} {A : Around} {s₀ s : Shared} {L : Addr} {l : List (Str × Value)} {N : List (Addr × Obj)} {P : Heap → Prop} {env : Env} {a b : Addr} {xs ys : List Value} {n n2 : Nat} {Q : Value → Shared → Prop}
theorem m_list {name : Str} {id : String} {pl : Sem Bool} {Q : Value × List Value → Shared → Prop} (ha : s.heap.get? a = some (lst xs n)) (slot : Slot "list" name id) (hty : typeOf (.builtin id) = pure (.type "method_descriptor"))
    (h : Q (.builtin id, [.ref a]) s) : wpAny (model PR w) A (getMethod (.ref a) name pl) Q no s :=
  getMethod_builtin ⟨_, ha, rfl⟩ PySem.F.plainAttrs_list slot hty (fun x e => by cases e; exact ⟨_, ha, rfl⟩) h
noncomputable def Left (s s' : Shared) (a : Addr) (ys : List Value) : Prop := ∃ h' n', s' = { s with heap := h' } ∧ h'.get? a = some (lst ys n') ∧ ∀ b o, b ≠ a → s.heap.get? b = some o → h'.get? b = some o
theorem h_append {x : Value} (ha : s.heap.get? a = some (lst xs n)) (hz : xs.length ≤ 1000) (h : ∀ s', Left s s' a (xs ++ [x]) → Q .none s') : wpAny (model PR w) A (call (.builtin "list.append") [.ref a, x]) Q no s := by
  have hz' : xs.toArray.size ≤ sizeLine := by rw [List.size_toArray, sizeLine_eq]; first | with_reducible exact a3 ‹_› (by decide) | lia | omega
  refine append_at (hsz := hz') ha fun h' hs e => ?_
  rw [show xs.toArray.push x = (xs ++ [x]).toArray by simp] at e
  exact h _ ⟨h', n + 1, rfl, e, fun b o hb e => (hs.2 b hb).trans e⟩
theorem h_insertI {x : Int} {i : Nat} {u : Tok} {y : Value} (hx : x = i) (ha : s.heap.get? a = some (lst xs n)) (hz : xs.length ≤ 1000) (hi : i ≤ xs.length) (h : ∀ s', Left s s' a (xs.take i ++ y :: xs.drop i) → Q .none s') :
    wpAny (model PR w) A (call (.builtin "list.insert") [.ref a, .int x u, y]) Q no s := by
  have hf : Builtin.List.listFitsIndex x = true := by
    unfold Builtin.List.listFitsIndex
    simp only [Bool.and_eq_true, decide_eq_true_eq]
    first | with_reducible exact t58 ‹_› ‹_› ‹_› | lia | omega
  have hz' : xs.toArray.size ≤ sizeLine := by rw [List.size_toArray, sizeLine_eq]; first | with_reducible exact a3 ‹_› (by decide) | lia | omega
  refine call_meets PySem.F.slot_list_insert ⟨_, ha, rfl⟩ PySem.F.entry_list_insert (PySem.F.args_list_insert_3 _ _ _) (PySem.AutoSeq1.list_insert_list_int_val_1 a xs.toArray n x u y (by simp [hf]) hz') ⟨ha, ?_⟩
  obtain ⟨n', e⟩ := upd_lst (ys := xs.take i ++ y :: xs.drop i) ha (fun xs => have k := if x < 0 then (x + (xs.size : Int)).toNat else min x.toNat xs.size; (xs.extract 0 k).push y ++ xs.extract k) (by
    have e1 : (if x < 0 then (x + (xs.toArray.size : Int)).toNat else min x.toNat xs.toArray.size) = i := by
      rw [if_neg (by first | decide | assumption | exact a1 ‹_› | exact a2 ‹_› | exact a3 ‹_› (by decide) | exact dl ‹_› | exact ee ‹_› ‹_› | lia | omega), List.size_toArray]; first | with_reducible exact t21 ‹_› ‹_› | lia | omega
    show (xs.toArray.extract 0 _).push y ++ xs.toArray.extract _ = _
    rw [e1]
    exact kl_ins_eq xs i y)
  exact h _ ⟨_, n', rfl, e, upd_other _⟩
theorem h_insert {i : Nat} {u : Tok} {y : Value} (ha : s.heap.get? a = some (lst xs n)) (hz : xs.length ≤ 1000) (hi : i ≤ xs.length) (h : ∀ s', Left s s' a (xs.take i ++ y :: xs.drop i) → Q .none s') :
    wpAny (model PR w) A (call (.builtin "list.insert") [.ref a, .int (i : Int) u, y]) Q no s := h_insertI rfl ha hz hi h
theorem h_extend (ha : s.heap.get? a = some (lst xs n)) (hb : s.heap.get? b = some (lst ys n2)) (hz : xs.length ≤ 1000) (hz2 : ys.length ≤ 1000) (h : ∀ s', Left s s' a (xs ++ ys) → Q .none s') :
    wpAny (model PR w) A (call (.builtin "list.extend") [.ref a, .ref b]) Q no s := by
  have ht : Builtin.List.listTooLong (xs.toArray.size + ys.toArray.size) = false := by
    unfold Builtin.List.listTooLong
    rw [decide_eq_false_iff_not, List.size_toArray, List.size_toArray, sizeLine_eq]; first | lia | omega
  refine call_meets PySem.F.slot_list_extend ⟨_, ha, rfl⟩ PySem.F.entry_list_extend (PySem.F.args_list_extend_2 _ _) (PySem.AutoSeq1.list_extend_list_list_0 a xs.toArray n b ys.toArray n2 (by rw [ht]; simp) (by rw [List.size_toArray, sizeLine_eq]; first | with_reducible exact a3 ‹_› (by decide) | lia | omega) (by rw [List.size_toArray, List.size_toArray, sizeLine_eq]; first | lia | omega)) ⟨ha, hb, ?_⟩
  obtain ⟨n', e⟩ := upd_lst (ys := xs ++ ys) ha (fun x => x ++ ys.toArray) (by simp)
  exact h _ ⟨_, n', rfl, e, upd_other _⟩
theorem h_pop {y : Value} (ha : s.heap.get? a = some (lst (xs ++ [y]) n)) (hz : xs.length ≤ 1000) (h : ∀ s', Left s s' a xs → Q y s') : wpAny (model PR w) A (call (.builtin "list.pop") [.ref a]) Q no s := by
  have hz' : (xs ++ [y]).toArray.size ≤ sizeLine := by rw [List.size_toArray, sizeLine_eq, List.length_append]; simp; first | with_reducible exact a3 ‹_› (by decide) | lia | omega
  have hk : (xs ++ [y]).toArray.size - 1 = xs.length := by rw [List.size_toArray, List.length_append]; rfl
  have hy : (xs ++ [y]).toArray[(xs ++ [y]).toArray.size - 1]? = some y := by rw [hk]; simp
  refine call_meets PySem.F.slot_list_pop ⟨_, ha, rfl⟩ PySem.F.entry_list_pop (PySem.F.args_list_pop_1 _) (PySem.MeetsSeq.list_pop_last a _ n y hy hz') ⟨ha, ?_⟩
  obtain ⟨n', e⟩ := upd_lst (ys := xs) ha (fun zs => zs.eraseIdxIfInBounds ((xs ++ [y]).toArray.size - 1)) (by
    show (xs ++ [y]).toArray.eraseIdxIfInBounds ((xs ++ [y]).toArray.size - 1) = xs.toArray
    rw [hk, kl_erase, List.append_nil])
  exact h _ ⟨_, n', rfl, e, upd_other _⟩
theorem Act.left (D : Act B s₀ L l N P s) (i : Nat) {o : Obj} {s' : Shared} (hi : N[i]? = some (a, o)) (hd : ¬ Hard o) (x : Left s s' a ys) : ∃ n', Act B s₀ L l (N.set i (a, lst ys n')) P s' := by
  obtain ⟨h', n', rfl, e, k⟩ := x
  exact ⟨n', D.to' (D.hp.turn i hi hd k e)⟩
end
theorem Gnd.In {w : World} {mg mb : Str → Option Value} {B h : Heap} (G : Gnd w mg mb B) (O : Ok B h) : (KK w).In h := fun a o e => O.base _ _ (G.X a o e)
section
variable {w : World} {s : Shared}
theorem bL2 (X : (KK w).In s.heap) {a x k : Value} : BindsTo s F62.1 ⟨[a, x], [(Str.ofString "key", k)]⟩ [(Str.ofString "a", a), (Str.ofString "x", x), (Str.ofString "lo", .int 0 243), (Str.ofString "hi", .none), (Str.ofString "key", k)] :=
  binds_K X (T := 54) rfl rfl rfl rfl rfl
theorem bL4 (X : (KK w).In s.heap) {a x lo hi k : Value} : BindsTo s F62.1 ⟨[a, x, lo, hi], [(Str.ofString "key", k)]⟩ [(Str.ofString "a", a), (Str.ofString "x", x), (Str.ofString "lo", lo), (Str.ofString "hi", hi), (Str.ofString "key", k)] :=
  binds_K X (T := 54) rfl rfl rfl rfl rfl
theorem bR2 (X : (KK w).In s.heap) {a x k : Value} : BindsTo s F44.1 ⟨[a, x], [(Str.ofString "key", k)]⟩ [(Str.ofString "a", a), (Str.ofString "x", x), (Str.ofString "lo", .int 0 216), (Str.ofString "hi", .none), (Str.ofString "key", k)] :=
  binds_K X (T := 36) rfl rfl rfl rfl rfl
theorem bR4 (X : (KK w).In s.heap) {a x lo hi k : Value} : BindsTo s F44.1 ⟨[a, x, lo, hi], [(Str.ofString "key", k)]⟩ [(Str.ofString "a", a), (Str.ofString "x", x), (Str.ofString "lo", lo), (Str.ofString "hi", hi), (Str.ofString "key", k)] :=
  binds_K X (T := 36) rfl rfl rfl rfl rfl
theorem bI2 (X : (KK w).In s.heap) {a x k : Value} : BindsTo s F53.1 ⟨[a, x], [(Str.ofString "key", k)]⟩ [(Str.ofString "a", a), (Str.ofString "x", x), (Str.ofString "lo", .int 0 230), (Str.ofString "hi", .none), (Str.ofString "key", k)] :=
  binds_K X (T := 45) rfl rfl rfl rfl rfl
theorem lk54 : (KK w).lookup 54 = some ⟨.type "tuple", none, .seq #[.int 0 243, .none] 0, #[]⟩ := rfl
theorem lk36 : (KK w).lookup 36 = some ⟨.type "tuple", none, .seq #[.int 0 216, .none] 0, #[]⟩ := rfl
noncomputable def lk55 : {q : DictEntry × Nat // (KK w).lookup 55 = some ⟨.type "dict", none, .dict #[q.1] q.2, #[]⟩} := ⟨(_, _), rfl⟩
noncomputable def lk37 : {q : DictEntry × Nat // (KK w).lookup 37 = some ⟨.type "dict", none, .dict #[q.1] q.2, #[]⟩} := ⟨(_, _), rfl⟩
theorem bL0 (X : (KK w).In s.heap) {a x : Value} : BindsTo s F62.1 ⟨[a, x], []⟩ [(Str.ofString "a", a), (Str.ofString "x", x), (Str.ofString "lo", .int 0 243), (Str.ofString "hi", .none), (Str.ofString "key", .none)] :=
  fun _ _ _ _ hq _ _ _ => ⟨_, X _ _ lk54, ⟨_, X _ _ lk55.2, hq⟩⟩
theorem bR0 (X : (KK w).In s.heap) {a x : Value} : BindsTo s F44.1 ⟨[a, x], []⟩ [(Str.ofString "a", a), (Str.ofString "x", x), (Str.ofString "lo", .int 0 216), (Str.ofString "hi", .none), (Str.ofString "key", .none)] :=
  fun _ _ _ _ hq _ _ _ => ⟨_, X _ _ lk36, ⟨_, X _ _ lk37.2, hq⟩⟩
end
section
variable {w : World} {A : Around} {s : Shared} {env : Env} {Q : Flow → Shared → Prop} {rest : List Stmt}
theorem x_expr {e : Expr} {pos : Pos} (h : wpAny (model PR w) A (eval e env) (fun v s' => (∀ a, v ≠ .ref a) ∧ wpAny (model PR w) A (execs rest env) Q no s') no s)
    (hi : interactive env = false := by rfl) (hs : swapsWith e none pos.line env = pure false := by rfl) : wpAny (model PR w) A (execs (.Expr e pos :: rest) env) Q no s := by
  refine x_cons (wpAny_Expr (wpAny_mono h (fun v s' h' => ?_) fun _ _ x => x) hi hs)
  cases v <;> first | exact h'.2 | exact (h'.1 _ rfl).elim
theorem x_exprK {e : Expr} {pos : Pos} (h : ∀ K : Value → Shared → Prop, (∀ v s', ((∀ a, v ≠ .ref a) ∧ wpAny (model PR w) A (execs rest env) Q no s') → K v s') → wpAny (model PR w) A (eval e env) K no s)
    (hi : interactive env = false := by rfl) (hs : swapsWith e none pos.line env = pure false := by rfl) : wpAny (model PR w) A (execs (.Expr e pos :: rest) env) Q no s := x_expr (h _ fun _ _ x => x) hi hs
theorem kw_nil {pos : Pos} {Q : List Value → Shared → Prop} (h : Q [] s) : wpAny (model PR w) A (evalAll ((backToKw pos (keywordEach [] env)).map (·.2))) Q no s := kwAll_nil h
theorem kw_cons {pos p : Pos} {name : Str} {value : Expr} {rest : List Keyword} {Q : List Value → Shared → Prop}
    (h : wpAny (model PR w) A (eval value env) (fun v s₁ => wpAny (model PR w) A (evalAll ((backToKw pos (keywordEach rest env)).map (·.2))) (fun vs s₂ => Q (v :: vs) s₂) no s₁) no s) :
    wpAny (model PR w) A (evalAll ((backToKw pos (keywordEach (⟨some name, value, p⟩ :: rest) env)).map (·.2))) Q no s := kwAll_cons h
end

section
variable {w : World} {mg mb : Str → Option Value} {B : Heap} {A : Around} {s : Shared} {R : Result → Shared → Prop} {tx : List Nat} {sz : Nat}
theorem bis_le (p : Nat → Bool) : ∀ n lo hi, lo ≤ hi → bis p n lo hi ≤ hi
  | 0, lo, hi, h => h
  | n + 1, lo, hi, h => by
    rewrite [bis]
    split
    · split
      · exact bis_le p n _ _ (by first | exact half_lt ‹_› | lia | omega)
      · exact Nat.le_trans (bis_le p n _ _ (by first | decide | assumption | exact a1 ‹_› | exact a2 ‹_› | exact a3 ‹_› (by decide) | exact dl ‹_› | exact ee ‹_› ‹_› | lia | omega)) (by first | decide | assumption | exact a1 ‹_› | exact a2 ‹_› | exact a3 ‹_› (by decide) | exact dl ‹_› | exact ee ‹_› ‹_› | lia | omega)
    · exact h
noncomputable abbrev insAt (tx : List Nat) (sz : Nat) (ps : List Nat) (x : Nat) : Nat := bis (fun i => decide (keyOf tx sz (ps.getD i 0) < keyOf tx sz x)) ps.length 0 ps.length
theorem insort_spec (G : Gnd w mg mb B) (O : Ok B s.heap) (r : Room 5 A) {av kf : Addr} {ps : List Nat} {xs : List Value} {x n : Nat} {tt : Tok}
    (ha : s.heap.get? av = some (lst xs n)) (hps : Nats xs ps) (hz : ps.length ≤ 1000) (hzt : tx.length ≤ 1000) (hk : IsKey s.heap kf tx sz)
    (k : ∀ s' n', Like s s' → TabOk s'.heap → (∀ b o, b ≠ 102 → b ≠ av → s.heap.get? b = some o → s'.heap.get? b = some o) → s'.heap.get? av = some (lst (xs.take (insAt tx sz ps x) ++ .int (x : Int) tt :: xs.drop (insAt tx sz ps x)) n') → R (.ok (.ret .none)) s') :
    codeAny (model PR w) A (.call (.ref 53) ⟨[.ref av, .int (x : Int) tt], [(Str.ofString "key", .ref kf)]⟩) R s := by
  refine enter (fd := F53.1) G O r (F53.2 w) cd53 rfl (bI2 (G.In O)) (by decide) (locs rfl) ?_
  intro A s₁ D r
  have hkn := hk.ne O.tab
  obtain ⟨ko, hko, kfd, hkd⟩ : ∃ o, s.heap.get? kf = some o ∧ ∃ fd, o.data = .func fd := by
    obtain ⟨c, ctv, pm, c1, c2, t1, t2, ho, _⟩ := hk
    exact ⟨_, ho, _, rfl⟩
  have hli : s.heap.IsList av xs.toArray := lst_is ha
  have han : av ≠ 102 := Heap.IsList.n102 hli O.tab
  refine x_if ?_
  ((with_reducible refine wpAny_isTrue_Compare1 ?_ ?hm); (case hm => with_unfolding_all rfl))
  ((with_reducible refine' nmQ ?D ?v ?_ ?o ?L); (case L => exact rfl); (case o => exact Eq.refl true); (case D => assumption); (case v => exact rfl))
  (with_reducible refine e_none ?_)
  refine PyProof.Rows.is_none_gen ?_
  (with_reducible refine wpAny_truthy_bool ?_)
  refine ⟨fun h => (by cases h), fun _ => ?_⟩
  refine x_assign ?_
  refine wpAny_Call_Name_kw ?_
  refine nmG G (by assumption) g62 ?_
  refine c_fnk G F62.2 ?_
  ((with_reducible refine sp_cons ?_ ?he); (case he => exact rfl))
  ((with_reducible refine' nmQ ?D ?v ?_ ?o ?L); (case L => exact rfl); (case o => exact Eq.refl true); (case D => assumption); (case v => exact rfl))
  ((with_reducible refine sp_cons ?_ ?he); (case he => exact rfl))
  refine wpAny_Call_Name_kw ?_
  ((with_reducible refine' nmQ ?D ?v ?_ ?o ?L); (case L => exact rfl); (case o => exact Eq.refl true); (case D => assumption); (case v => exact rfl))
  refine c_ob hkd ?_
  ((with_reducible refine sp_cons ?_ ?he); (case he => exact rfl))
  ((with_reducible refine' nmQ ?D ?v ?_ ?o ?L); (case L => exact rfl); (case o => exact Eq.refl true); (case D => assumption); (case v => exact rfl))
  (with_reducible refine sp_nil ?_)
  refine ⟨Act.ext (by assumption) _ _ hkn List.not_mem_nil hko, ?_⟩
  refine key_spec G (Act.ok (by assumption)) (r.weak (by decide)) (hk.ext (Act.ext (by assumption)) O.tab) hzt ?_
  intro s6 t6 X
  have D6 := Act.aft (by assumption) X
  ((with_reducible refine sp_cons ?_ ?he); (case he => exact rfl))
  ((with_reducible refine' nmQ ?D ?v ?_ ?o ?L); (case L => exact rfl); (case o => exact Eq.refl true); (case D => assumption); (case v => exact rfl))
  ((with_reducible refine sp_cons ?_ ?he); (case he => exact rfl))
  ((with_reducible refine' nmQ ?D ?v ?_ ?o ?L); (case L => exact rfl); (case o => exact Eq.refl true); (case D => assumption); (case v => exact rfl))
  (with_reducible refine sp_nil ?_)
  (with_reducible refine kw_cons ?_)
  ((with_reducible refine' nmQ ?D ?v ?_ ?o ?L); (case L => exact rfl); (case o => exact Eq.refl true); (case D => assumption); (case v => exact rfl))
  (with_reducible refine kw_nil ?_)
  refine ⟨D6.ok, ?_⟩
  refine bisL_key (lo := 0) (hi := ps.length) (tx := tx) (sz := sz) G D6.ok (r.weak (by decide)) (bL4 (G.In D6.ok)) (Heap.IsList.ext hli O.tab D6.ext) hps hz hzt (hk.ext D6.ext O.tab) (.inl ⟨rfl, rfl⟩) (Nat.le_refl _) ?_
  intro s7 t7 X7
  have D7 := D6.aft X7
  refine stL D7 ?_ rfl rfl
  intro s8 D8
  refine x_nil ?_
  refine x_expr ?_
  refine MethodCall_ ?_
  ((with_reducible refine' nmQ ?D ?v ?_ ?o ?L); (case L => exact rfl); (case o => exact Eq.refl true); (case D => assumption); (case v => exact rfl))
  have hav := D8.hp.ext _ _ han List.not_mem_nil ha
  refine m_list hav PySem.F.slot_list_insert PySem.F.type_list_insert ?_
  refine callWith_method1 ?_
  ((with_reducible refine sp_cons ?_ ?he); (case he => exact rfl))
  ((with_reducible refine' nmQ ?D ?v ?_ ?o ?L); (case L => exact rfl); (case o => exact Eq.refl true); (case D => assumption); (case v => exact rfl))
  ((with_reducible refine sp_cons ?_ ?he); (case he => exact rfl))
  ((with_reducible refine' nmQ ?D ?v ?_ ?o ?L); (case L => exact rfl); (case o => exact Eq.refl true); (case D => assumption); (case v => exact rfl))
  (with_reducible refine sp_nil ?_)
  refine h_insert hav (by rw [hps.len]; first | assumption | lia | omega) (by rw [hps.len]; exact bis_le _ _ _ _ (by first | exact Nat.le_add_left .. | lia | omega)) ?_
  rintro s9 ⟨h', n', rfl, e, kp⟩
  refine ⟨fun a q => (by cases q), ?_⟩
  refine x_nil ?_
  refine k _ n' ⟨D8.like.os, D8.like.gens, D8.like.kg⟩ ?_ (fun b o h1 h2 q => kp b o h2 (D8.ext b o h1 List.not_mem_nil q)) e
  exact D8.hp.tab.ext (X := [av]) (fun b o hb q => kp b o (fun q' => hb (by rw [q']; exact .head _)) q) (fun q => han (List.mem_singleton.mp q).symm) fun b hb o q hd => by
    rw [List.mem_singleton.mp hb] at q
    have q : s8.heap.get? av = some o := q
    rw [hav] at q; cases q; exact hard_seq rfl hd
end
structure It (w : World) (A : Around) (I : Addr) (n : Nat) (val : Nat → Value → Prop) (ob : Nat → Obj → Prop) (base : Heap → Prop) : Prop where
  soft : ∀ i o, ob i o → ¬ Hard o
  next : ∀ (i : Nat) (s : Shared) (Q : Option Value → Shared → Prop) (o : Obj), i < n → base s.heap → s.heap.get? I = some o → ob i o →
    (∀ v h' tk o', val i v → h'.get? I = some o' → ob (i + 1) o' → (∀ b ob, b ≠ I → s.heap.get? b = some ob → h'.get? b = some ob) → Q (some v) { s with heap := h', toks := tk }) → wpAny (model PR w) A (pyNext (.ref I)) Q no s
  done : ∀ (s : Shared) (Q : Option Value → Shared → Prop) (o : Obj), base s.heap → s.heap.get? I = some o → ob n o →
    (∀ h', (∀ b ob, b ≠ I → s.heap.get? b = some ob → h'.get? b = some ob) → Q none { s with heap := h' }) → wpAny (model PR w) A (pyNext (.ref I)) Q no s
  self : ∀ (i : Nat) (s : Shared) (Q : Value → Shared → Prop) (o : Obj), s.heap.get? I = some o → ob i o → Q (.ref I) s → wpAny (model PR w) A (pyIter (.ref I)) Q no s

noncomputable def LI (a : Addr) (i : Nat) (o : Obj) : Prop := o.cls = .type "list_iterator" ∧ o.data = .fields #[.ref a, .int (i : Int) 0]
noncomputable def RI (a c : Int) (n i : Nat) (o : Obj) : Prop := o = { cls := .type "range_iterator", dict := none, data := .fields #[rawInt (a + i * c), rawInt ((n : Int) - i), rawInt c], slots := #[] }
noncomputable def SI (x : Str) (t : Tok) (i : Nat) (o : Obj) : Prop := (o.cls = .type "str_ascii_iterator" ∧ x.cps.all (· < 128) = true ∨ o.cls = .type "str_iterator" ∧ x.cps.all (· < 128) = false) ∧ o.data = .fields #[.str x t, .int (i : Int) 0]

section
variable {w : World} {A : Around} {I a : Addr}
theorem It.list (hh : A.handled = none) (hne : a ≠ I) (xs : List Value) : It w A I xs.length (fun i v => xs[i]? = some v) (LI a) (fun h => h.IsList a xs.toArray) where
  soft := fun i o ho => hard_int ho.2 rfl
  next := fun i s Q o hi hb ho hob h => by
    refine wpAny_pyNext_list_item (i := i) ⟨o, ho, hob.1, hob.2⟩ hb (x := xs[i]) (by simp [hi]) fun h' hit' hs' => ?_
    obtain ⟨o', e, c, d⟩ := hit'
    exact h _ h' s.toks o' (by simp [hi]) e ⟨c, d⟩ fun b ob hne e => (hs'.2 b hne).trans e
  done := fun s Q o hb ho hob h => wpAny_pyNext_list_end (i := xs.length) hh ⟨o, ho, hob.1, hob.2⟩ hb (by simp) fun h' he => h h' he
  self := fun i s Q o ho hob h => wpAny_pyIter_listiter (i := i) ⟨o, ho, hob.1, hob.2⟩ h
theorem It.range (hh : A.handled = none) (x c : Int) (n : Nat) : It w A I n (fun i v => ∃ t, v = .int (x + i * c) t) (RI x c n) (fun _ => True) where
  soft := fun i o ho => by subst ho; exact hard_int rfl rfl
  next := fun i s Q o hi hb ho hob h => by
    subst hob
    refine wpAny_pyNext_range_item ho (by first | decide | assumption | exact a1 ‹_› | exact a2 ‹_› | exact a3 ‹_› (by decide) | exact dl ‹_› | exact ee ‹_› ‹_› | lia | omega) fun h' hit' hs' => ?_
    refine h _ h' _ _ ⟨_, rfl⟩ hit' ?_ fun b ob hne e => (hs'.2 b hne).trans e
    have e1 : x + (i : Int) * c + c = x + ((i + 1 : Nat) : Int) * c := by push_cast; rw [Int.add_mul, Int.one_mul, Int.add_assoc]
    have e2 : (n : Int) - (i : Int) - 1 = (n : Int) - ((i + 1 : Nat) : Int) := by push_cast; first | lia | omega
    rw [e1, e2]; rfl
  done := fun s Q o hb ho hob h => by
    subst hob
    exact wpAny_pyNext_range_end hh ho (by first | decide | assumption | exact a1 ‹_› | exact a2 ‹_› | exact a3 ‹_› (by decide) | exact dl ‹_› | exact ee ‹_› ‹_› | lia | omega) fun h' he => h h' he
  self := fun i s Q o ho hob h => by subst hob; exact wpAny_pyIter_rangeiter ho h
theorem It.str (hh : A.handled = none) (x : Str) (t : Tok) : It w A I x.cps.size (SignAt x) (SI x t) (fun _ => True) where
  soft := fun i o ho => hard_int ho.2 rfl
  next := fun i s Q o hi hb ho hob h => by
    rcases hob.1 with ⟨c, ha⟩ | ⟨c, ha⟩
    · refine wpAny_pyNext_ascii_item (i := i) (x := x) (t := t) ⟨o, ho, c, hob.2⟩ (c := x.cps[i]) (by simp [hi]) fun h' hit' hs' => ?_
      obtain ⟨o', e, c, d⟩ := hit'
      exact h _ h' _ o' ⟨_, _, by simp [hi], rfl⟩ e ⟨.inl ⟨c, ha⟩, d⟩ fun b ob hne e => (hs'.2 b hne).trans e
    · refine wpAny_pyNext_wide_item (i := i) (x := x) (t := t) ⟨o, ho, c, hob.2⟩ (c := x.cps[i]) (by simp [hi]) fun h' hit' hs' => ?_
      obtain ⟨o', e, c, d⟩ := hit'
      exact h _ h' _ o' ⟨_, _, by simp [hi], rfl⟩ e ⟨.inr ⟨c, ha⟩, d⟩ fun b ob hne e => (hs'.2 b hne).trans e
  done := fun s Q o hb ho hob h => by
    rcases hob.1 with ⟨c, ha⟩ | ⟨c, ha⟩
    · exact wpAny_pyNext_ascii_end (i := x.cps.size) (x := x) (t := t) hh ⟨o, ho, c, hob.2⟩ (by simp) fun h' he => h h' he
    · exact wpAny_pyNext_wide_end (i := x.cps.size) (x := x) (t := t) hh ⟨o, ho, c, hob.2⟩ (by simp) fun h' he => h h' he
  self := fun i s Q o ho hob h => by
    rcases hob.1 with ⟨c, ha⟩ | ⟨c, ha⟩
    · exact wpAny_pyIter_striter_ascii (i := i) (x := x) (t := t) ⟨o, ho, c, hob.2⟩ h
    · exact wpAny_pyIter_striter_wide (i := i) (x := x) (t := t) ⟨o, ho, c, hob.2⟩ h
end

section
variable {w : World} {B : Heap} {A : Around} {s₀ s : Shared} {L : Addr} {l : List (Str × Value)} {N : List (Addr × Obj)} {P : Heap → Prop} {env : Env} {I : Addr} {n i : Nat} {val : Nat → Value → Prop} {ob : Nat → Obj → Prop} {base : Heap → Prop} {o : Obj}
theorem Act.erase (D : Act B s₀ L l N P s) (j : Nat) : Act B s₀ L l (N.eraseIdx j) P s := D.sub (List.eraseIdx_sublist ..)
theorem Act.gone (D : Act B s₀ L l N P s) (j : Nat) {a : Addr} (hj : N[j]? = some (a, o)) (hd : ¬ Hard o) {h' : Heap} (k : ∀ b ob, b ≠ a → s.heap.get? b = some ob → h'.get? b = some ob) (t : Nat) : Act B s₀ L l (N.eraseIdx j) P { s with heap := h', toks := t } := by
  refine (D.erase j).to ((D.erase j).hp.other (D.hp.ownAt j hj) ?_ (fun o' e => ?_) k) t
  · intro p hp q
    have sp := pw_split hj
    have hord := D.hp.ord
    rw [sp, List.map_append, List.map_cons] at hord
    rw [List.eraseIdx_eq_take_drop_succ] at hp
    rcases List.mem_append.mp hp with hp | hp
    · exact Nat.ne_of_gt ((List.pairwise_append.mp hord).2.2 p.1 (List.mem_map_of_mem hp) a (.head _)) q
    · exact Nat.ne_of_lt ((List.pairwise_cons.mp (List.pairwise_append.mp hord).2.1).1 p.1 (List.mem_map_of_mem hp)) q
  · rw [D.at j hj] at e; cases e; exact hd
theorem It.step (W : It w A I n val ob base) (D : Act B s₀ L l N P s) (j : Nat) {Q : Option Value → Shared → Prop} (hj : N[j]? = some (I, o)) (ho : ob i o) (hb : base s.heap) (hi : i < n)
    (h : ∀ v s' o', val i v → ob (i + 1) o' → Act B s₀ L l (N.set j (I, o')) P s' → Q (some v) s') : wpAny (model PR w) A (pyNext (.ref I)) Q no s :=
  W.next i s Q o hi hb (D.at j hj) ho fun v h' tk o' hv e ho' k => h v _ o' hv ho' (D.to (D.hp.turn j hj (W.soft _ _ ho) k e) tk)
theorem It.end (W : It w A I n val ob base) (D : Act B s₀ L l N P s) (j : Nat) {Q : Option Value → Shared → Prop} (hj : N[j]? = some (I, o)) (ho : ob n o) (hb : base s.heap)
    (h : ∀ s', Act B s₀ L l (N.eraseIdx j) P s' → Q none s') : wpAny (model PR w) A (pyNext (.ref I)) Q no s :=
  W.done s Q o hb (D.at j hj) ho fun h' k => h _ (D.gone j hj (W.soft _ _ ho) k s.toks)
theorem i_list {a : Addr} {xs : List Value} {Q : Value → Shared → Prop} (D : Act B s₀ L l N P s) (ha : s.heap.IsList a xs.toArray)
    (h : ∀ I o s', LI a 0 o → a < I → Act B s₀ L l ((I, o) :: N) P s' → Q (.ref I) s') : wpAny (model PR w) A (pyIter (.ref a)) Q no s :=
  wpAny_pyIter_list ha (h _ _ _ ⟨rfl, rfl⟩ (let ⟨_, e, _⟩ := ha; Heap.lt_size e) (D.push _ rfl))
theorem i_range {r : Addr} {a b c : Int} {t u v : Tok} {Q : Value → Shared → Prop} (D : Act B s₀ L l N P s) (hr : IsRange s.heap r a b c t u v) (hs : Builtin.Range.small a b c = true) (hn : Builtin.Range.rangeSize a b c = (n : Int))
    (h : ∀ I o s', RI a c n 0 o → Act B s₀ L l ((I, o) :: N) P s' → Q (.ref I) s') : wpAny (model PR w) A (pyIter (.ref r)) Q no s :=
  wpAny_pyIter_range hr hs (h _ _ _ (by unfold RI; rw [hn, show a + ((0 : Nat) : Int) * c = a by simp, show (n : Int) - ((0 : Nat) : Int) = n by simp]) (D.push _ rfl))
theorem x_for {x : Str} {px : Pos} {iter : Expr} {body rest : List Stmt} {pos : Pos} {Q : Flow → Shared → Prop} (J : Addr → Nat → Shared → Prop)
    (h : wpAny (model PR w) A (eval iter env) (fun v s₁ => wpAny (model PR w) A (pyIter v) (fun it s₂ => ∃ I n, it = .ref I ∧ J I n s₂) no s₁) no s)
    (turn : ∀ I n s, J I n s → wpAny (model PR w) A (pyNext (.ref I)) (fun r s₁ => match r with
      | none => wpAny (model PR w) A (execs rest env) Q no s₁
      | some v => wpAny (model PR w) A (storeName env x v) (fun _ s₂ => wpAny (model PR w) A (execs body env) (fun f s₃ => match f with
          | .next | .cont => ∃ m, m < n ∧ J I m s₃
          | .brk => wpAny (model PR w) A (execs rest env) Q no s₃
          | .ret v => Q (.ret v) s₃) no s₂) no s₁) no s)
    (hs : ∀ x, foldedSetIterable iter env x = pure x := by intro _; rfl) :
    wpAny (model PR w) A (execs (.For (.Name x px) iter body [] pos :: rest) env) Q no s := by
  refine x_cons (wpAny_For (wpAny_mono h (fun v s₁ h₁ => wpAny_mono h₁ (fun it s₂ h₂ => ?_) fun _ _ x => x.elim) fun _ _ x => x.elim) hs)
  obtain ⟨I, n, rfl, hJ⟩ := h₂
  refine codeAny_forLoop (J I) (fun n s hJ => ?_) n hJ
  refine wpAny_mono (turn I n s hJ) (fun r s₁ h₁ => ?_) fun _ _ x => x.elim
  cases r with
  | none => exact wpAny_execs_nil h₁
  | some v =>
    refine wpAny_assign_Name (wpAny_mono h₁ (fun _ s₂ h₂ => wpAny_mono h₂ (fun f s₃ h₃ => ?_) fun _ _ x => x.elim) fun _ _ x => x.elim)
    cases f <;> exact h₃
theorem x_forK {x : Str} {px : Pos} {iter : Expr} {body rest : List Stmt} {pos : Pos} {Q : Flow → Shared → Prop} (J : Addr → Nat → Shared → Prop)
    (h : ∀ K : Value → Shared → Prop, (∀ it s₂, (∃ I n, it = .ref I ∧ J I n s₂) → K it s₂) → wpAny (model PR w) A (eval iter env) (fun v s₁ => wpAny (model PR w) A (pyIter v) K no s₁) no s)
    (turn : ∀ I n s, J I n s → wpAny (model PR w) A (pyNext (.ref I)) (fun r s₁ => match r with
      | none => wpAny (model PR w) A (execs rest env) Q no s₁
      | some v => wpAny (model PR w) A (storeName env x v) (fun _ s₂ => wpAny (model PR w) A (execs body env) (fun f s₃ => match f with
          | .next | .cont => ∃ m, m < n ∧ J I m s₃
          | .brk => wpAny (model PR w) A (execs rest env) Q no s₃
          | .ret v => Q (.ret v) s₃) no s₂) no s₁) no s)
    (hs : ∀ x, foldedSetIterable iter env x = pure x := by intro _; rfl) :
    wpAny (model PR w) A (execs (.For (.Name x px) iter body [] pos :: rest) env) Q no s := x_for J (h _ fun _ _ x => x) turn hs
theorem x_forW {x : Str} {px : Pos} {iter : Expr} {body rest : List Stmt} {pos : Pos} {Q : Flow → Shared → Prop} (J : Addr → Nat → Shared → Prop)
    (h : ∀ K : Value → Shared → Prop, (∀ it s₂, (∃ I n, it = .ref I ∧ J I n s₂) → K it s₂) → wpAny (model PR w) A (eval iter env) (fun v s₁ => wpAny (model PR w) A (pyIter v) K no s₁) no s)
    (turn : ∀ I n s, J I n s → ∀ W : Flow → Shared → Prop, (∀ s₂, (∃ m, m < n ∧ J I m s₂) → W .next s₂) → (∀ v s₂, Q (.ret v) s₂ → W (.ret v) s₂) → wpAny (model PR w) A (pyNext (.ref I)) (fun r s₁ => match r with
      | none => wpAny (model PR w) A (execs rest env) Q no s₁
      | some v => wpAny (model PR w) A (storeName env x v) (fun _ s₂ => wpAny (model PR w) A (execs body env) W no s₂) no s₁) no s)
    (hs : ∀ x, foldedSetIterable iter env x = pure x := by intro _; rfl) :
    wpAny (model PR w) A (execs (.For (.Name x px) iter body [] pos :: rest) env) Q no s :=
  x_forK J h (fun I n s hJ => turn I n s hJ (fun f s₃ => match f with | .next | .cont => ∃ m, m < n ∧ J I m s₃ | .brk => wpAny (model PR w) A (execs rest env) Q no s₃ | .ret v => Q (.ret v) s₃) (fun _ h => h) fun _ _ h => h) hs
end
noncomputable def CompTail (w : World) (A : Around) (env : Env) (e : Expr) (scope : Scope) (cl : List (Str × Addr)) (use : Option (Value → Sem Unit)) (Q : Value → Shared → Prop) (v : Value) (s₁ : Shared) : Prop :=
  wpAny (model PR w) A (pyIter v) (fun it s₂ => wpAny (model PR w) A (newList []) (fun acc s₃ =>
      wpAny (model PR w) A (newFunctionEnv scope env.globals cl [] env.qual none .none (some env)) (fun cenv s₄ =>
        codeAny (model PR w) A (.compStart e 0 it acc { cenv with scope := relabel scope env }) (compPost (model PR w) A no use Q acc cenv.locals) s₄) no s₃) no s₂) no s₁
section
variable {w : World} {B : Heap} {A : Around} {s₀ s : Shared} {L : Addr} {l : List (Str × Value)} {N : List (Addr × Obj)} {P : Heap → Prop} {env : Env} {n : Nat} {val : Nat → Value → Prop} {ob : Nat → Obj → Prop} {base : Heap → Prop} {o : Obj}
theorem x_comp {elt iter : Expr} {target : Expr} {ifs : List Expr} {more : List Comprehension} {scope : Scope} {cl : List (Str × Addr)} {pos : Pos} {Q : Value → Shared → Prop}
    (h : wpAny (model PR w) A (eval iter env) (CompTail w A env (.ListComp elt (⟨target, iter, ifs, 0⟩ :: more) scope pos) scope cl none Q) no s)
    (hclos : closureFor scope env = pure cl := by rfl) (hkind : scope.kind = .function := by rfl)
    (hnames : ∀ y ∈ scope.names, y.2 = .local → scope.names.lookup y.1 = some .local := by decide)
    (hs : ∀ x, foldedSetIterable iter env x = pure x := by intro _; rfl) :
    wpAny (model PR w) A (eval (.ListComp elt (⟨target, iter, ifs, 0⟩ :: more) scope pos) env) Q no s := by
  rw [eval_ListComp]
  exact wpAny_comprehension_free (use := none) rfl hs hclos hkind hnames h
theorem x_assign_comp {elt iter : Expr} {target : Expr} {y : Str} {py : Pos} {ifs : List Expr} {more : List Comprehension} {scope : Scope} {cl : List (Str × Addr)} {pos spos : Pos} {rest : List Stmt} {Q : Flow → Shared → Prop}
    (h : wpAny (model PR w) A (eval iter env) (CompTail w A env (.ListComp elt (⟨target, iter, ifs, 0⟩ :: more) scope pos) scope cl (some (assign (.Name y py) env)) (fun _ s' => wpAny (model PR w) A (execs rest env) Q no s')) no s)
    (hclos : closureFor scope env = pure cl := by rfl) (hkind : scope.kind = .function := by rfl)
    (hnames : ∀ y ∈ scope.names, y.2 = .local → scope.names.lookup y.1 = some .local := by decide)
    (hsw : swapsWith (.ListComp elt (⟨target, iter, ifs, 0⟩ :: more) scope pos) (some (.Name y py)) spos.line env = pure true := by rfl)
    (hs : ∀ x, foldedSetIterable iter env x = pure x := by intro _; rfl) :
    wpAny (model PR w) A (execs (.Assign [.Name y py] (.ListComp elt (⟨target, iter, ifs, 0⟩ :: more) scope pos) spos :: rest) env) Q no s := by
  refine x_cons ?_
  rw [exec_Assign_Name_used _ _ _ _ hsw]
  refine wpAny_bind (wpAny_standAt (wpAny_bind ?_))
  show wpAny _ A (do let _ ← comprehension (.ListComp elt (⟨target, iter, ifs, 0⟩ :: more) scope pos) scope env _ (newList []) false (eval iter env) (some (assign (.Name y py) env))) _ _ s
  exact wpAny_bind (wpAny_mono (wpAny_comprehension_free (use := some (assign (.Name y py) env)) (Q := fun _ s' => wpAny (model PR w) A (execs rest env) Q no s') rfl hs hclos hkind hnames h) (fun _ s' hq => wpAny_pure (wpAny_pure hq)) fun _ _ e => e.elim)

theorem comp_frame {e : Expr} {scope : Scope} {cl : List (Str × Addr)} {use : Option (Value → Sem Unit)} {Q : Value → Shared → Prop} {v : Value} (D : Act B s₀ L l N P s) (o₀ : Obj)
    (hit : ∀ Q' : Value → Shared → Prop, Q' (.ref s.heap.objs.size) { s with heap := s.heap.push o₀ } → wpAny (model PR w) A (pyIter v) Q' no s) (hof : o₀.isFreed = false)
    (hcell : ∀ y ∈ scope.names, y.2 ≠ .cell) (hkind : scope.kind = .function)
    (h : ∀ s', Act B s (s.heap.objs.size + 2) [] [(s.heap.objs.size + 1, lst [] 0), (s.heap.objs.size, o₀)] T0 s' →
      codeAny (model PR w) A (.compStart e 0 (.ref s.heap.objs.size) (.ref (s.heap.objs.size + 1)) (compEnvC scope cl (s.heap.objs.size + 2) env)) (compPost (model PR w) A no use Q (.ref (s.heap.objs.size + 1)) (s.heap.objs.size + 2)) s') :
    CompTail w A env e scope cl use Q v s := by
  refine hit _ ?_
  refine wpAny_newObj_type (wpAny_newFunctionEnv hcell (by intro y hy; simp at hy) (fun h₁ hns₁ hsb₁ => ?_) hkind)
  dsimp only at hns₁ hsb₁ ⊢
  have O := D.ok
  have z1 : (s.heap.push o₀).objs.size = s.heap.objs.size + 1 := Heap.size_push ..
  have z2 : ((s.heap.push o₀).push (lst [] 0)).objs.size = s.heap.objs.size + 2 := by rw [Heap.size_push, z1]
  have z2' : ((s.heap.push o₀).push { cls := .type "list", dict := none, data := .seq ([] : List Value).toArray }).objs.size = s.heap.objs.size + 2 := z2
  have k : ∀ b o, ((s.heap.push o₀).push (lst [] 0)).get? b = some o → h₁.get? b = some o := fun b o e => hsb₁.extBut b o (Nat.ne_of_lt (Heap.lt_size e)) (Heap.get?_push_of_some _ e)
  have k0 : ∀ b o, s.heap.get? b = some o → h₁.get? b = some o := fun b o e => k b o (Heap.get?_push_of_some _ (Heap.get?_push_of_some _ e))
  rw [z2'] at hns₁
  have e1 := h { s with heap := h₁, toks := s.toks + ([] : List (Str × Value)).length } ⟨⟨⟨_, hns₁, fun x v e => by cases e⟩, .of_keeps k0, Nat.le_add_right .., ?_, ?_, ?_, fun b o e => k0 b o (O.base b o e), O.no, O.low, O.tab.lt, O.tab.ext (X := []) (fun b o _ e => k0 b o e) List.not_mem_nil fun _ hb => (nomatch hb), Kept.t0, trivial⟩, rfl, id, fun _ _ e => e⟩
  · show codeAny _ _ (.compStart e 0 _ (.ref (s.heap.push o₀).objs.size) (compEnvC scope cl ((s.heap.push o₀).push { cls := .type "list", dict := none, data := .seq ([] : List Value).toArray }).objs.size env)) (compPost _ _ _ _ _ _ ((s.heap.push o₀).push { cls := .type "list", dict := none, data := .seq ([] : List Value).toArray }).objs.size) _
    rw [z2', z1]
    exact e1
  · intro p hp
    rcases List.mem_cons.mp hp with rfl | hp
    · have := Heap.get?_push_size (s.heap.push o₀) (o := lst [] 0) rfl
      rw [z1] at this
      exact k _ _ this
    · rcases List.mem_singleton.mp hp with rfl
      exact k _ _ (Heap.get?_push_of_some _ (Heap.get?_push_size _ hof))
  · intro p hp
    rcases List.mem_cons.mp hp with rfl | hp
    · exact ⟨Nat.le_add_right .., Nat.ne_of_lt (Nat.lt_succ_self _)⟩
    · rcases List.mem_singleton.mp hp with rfl
      exact ⟨Nat.le_refl _, Nat.ne_of_lt (Nat.lt_add_of_pos_right (by decide))⟩
  · exact List.pairwise_cons.mpr ⟨fun b hb => by rcases List.mem_singleton.mp hb with rfl; exact Nat.lt_succ_self _, List.pairwise_singleton ..⟩

theorem comp_over {ys : List Value} {m : Nat} {s' : Shared} (D : Act B s₀ L l N P s) (D' : Act B s (s.heap.objs.size + 2) [] [(s.heap.objs.size + 1, lst ys m)] T0 s') : Act B s₀ L l ((s.heap.objs.size + 1, lst ys m) :: N) P s' := by
  have D3 := D.aft D'.done
  exact ⟨D3.hp.more ⟨Nat.le_trans D.hp.hl (Nat.le_of_lt (Nat.lt_succ_of_lt D.hp.ltL)), Nat.ne_of_gt (Nat.lt_succ_of_lt D.hp.ltL)⟩ (fun p hp => Nat.lt_succ_of_lt (D.hp.lt hp)) (D'.at 0 rfl), D3.like⟩
theorem ns_soft {h : Heap} {a : Addr} {m : Str → Option Value} (hn : h.Ns a m) : ∀ o, h.get? a = some o → ¬ Hard o := fun o e hh => by
  obtain ⟨o', es, ep, e', hd, _⟩ := hn
  rw [e'] at e; cases e
  rcases hh with ⟨_, hh⟩ | ⟨_, hh⟩ | ⟨_, _, _, hh, _⟩ <;> (rw [hd] at hh; cases hh)
theorem comp_none {ys : List Value} {m : Nat} {s' : Shared} {Q : Value → Shared → Prop} (D : Act B s₀ L l N P s) (D' : Act B s (s.heap.objs.size + 2) [] [(s.heap.objs.size + 1, lst ys m)] T0 s')
    (h : ∀ s'', Act B s₀ L l ((s.heap.objs.size + 1, lst ys m) :: N) P s'' → Q (.ref (s.heap.objs.size + 1)) s'') :
    compPost (model PR w) A no none Q (.ref (s.heap.objs.size + 1)) (s.heap.objs.size + 2) (.ok .next) s' := by
  obtain ⟨m', hn, _⟩ := D'.hp.ns
  refine ⟨m', hn, fun h' hs' => h _ ?_⟩
  have D3 := comp_over D D'
  refine D3.to' (D3.hp.other (a := s.heap.objs.size + 2) ⟨Nat.le_trans D.hp.hl (Nat.le_of_lt (Nat.lt_add_right 2 D.hp.ltL)), Nat.ne_of_gt (Nat.lt_add_right 2 D.hp.ltL)⟩ ?_ (ns_soft hn) fun b ob hb e => (hs'.2 b hb).trans e)
  intro p hp
  rcases List.mem_cons.mp hp with rfl | hp
  · exact Nat.ne_of_lt (Nat.lt_succ_self _)
  · exact Nat.ne_of_lt (Nat.lt_add_right 2 (D.hp.lt hp))
theorem comp_some {ys : List Value} {m : Nat} {s' : Shared} {Q : Value → Shared → Prop} {y : Str} {py : Pos} (D : Act B s₀ L l N P s) (D' : Act B s (s.heap.objs.size + 2) [] [(s.heap.objs.size + 1, lst ys m)] T0 s')
    (h : ∀ s'', Act B s₀ L (put y (.ref (s.heap.objs.size + 1)) l) ((s.heap.objs.size + 1, lst ys m) :: N) P s'' → Q .none s'')
    (hk : env.scope.kind = .function := by rfl) (hx : env.kindOf y = some .local := by rfl) (hL : env.locals = L := by rfl) :
    compPost (model PR w) A no (some (assign (.Name y py) env)) Q (.ref (s.heap.objs.size + 1)) (s.heap.objs.size + 2) (.ok .next) s' := by
  obtain ⟨m', hn, _⟩ := D'.hp.ns
  have D3 := comp_over D D'
  obtain ⟨m3, F, k⟩ := D3.hp.fr
  subst hL
  have nL : s.heap.objs.size + 2 ≠ env.locals := Nat.ne_of_gt (Nat.lt_add_right 2 D.hp.ltL)
  refine wpAny_assign_Name (wpAny_storeName_local hx F.ns (fun h' hn' hs => ?_) (by rw [hk]; rfl))
  have D4 := D3.to (D3.hp.set k hn' hs) (s'.toks + 1)
  refine ⟨m', hn.sameBut hs nL, fun h'' hs' => h _ ?_⟩
  refine D4.to' (D4.hp.other (a := s.heap.objs.size + 2) ⟨Nat.le_trans D.hp.hl (Nat.le_of_lt (Nat.lt_add_right 2 D.hp.ltL)), nL⟩ ?_ (ns_soft (hn.sameBut hs nL)) fun b ob hb e => (hs'.2 b hb).trans e)
  intro p hp
  rcases List.mem_cons.mp hp with rfl | hp
  · exact Nat.ne_of_lt (Nat.lt_succ_self _)
  · exact Nat.ne_of_lt (Nat.lt_add_right 2 (D.hp.lt hp))

theorem comp_turns {elt iter : Expr} {x : Str} {px : Pos} {ifs : List Expr} {scope : Scope} {cl : List (Str × Addr)} {pos : Pos} {use : Option (Value → Sem Unit)} {Q : Value → Shared → Prop} {v : Value} (D : Act B s₀ L l N P s) (o₀ : Obj)
    (hit : ∀ Q' : Value → Shared → Prop, Q' (.ref s.heap.objs.size) { s with heap := s.heap.push o₀ } → wpAny (model PR w) A (pyIter v) Q' no s) (hof : o₀.isFreed = false)
    (W : It w A s.heap.objs.size n val ob base) (ho : ob 0 o₀) (hb : ∀ h', Ext [] s.heap h' → base h') (F : Nat → List Value → Prop) (h0 : F 0 []) (hF : ∀ i ys, F i ys → ys.length ≤ 1000)
    (turn : ∀ i v o ys m s', i < n → val i v → ob (i + 1) o → F i ys → Act B s (s.heap.objs.size + 2) [(x, v)] [(s.heap.objs.size + 1, lst ys m), (s.heap.objs.size, o)] T0 s' →
      wpAny (model PR w) A (forIn ifs true fun c r => if r = true then do let ok ← isTrue c (compEnvC scope cl (s.heap.objs.size + 2) env) (eval c (compEnvC scope cl (s.heap.objs.size + 2) env)); pure (ForInStep.yield ok) else pure (ForInStep.yield r))
        (fun ok s₃ => (ok = true → wpAny (model PR w) A (eval elt (compEnvC scope cl (s.heap.objs.size + 2) env)) (fun y s₄ => Act B s (s.heap.objs.size + 2) [(x, v)] [(s.heap.objs.size + 1, lst ys m), (s.heap.objs.size, o)] T0 s₄ ∧ F (i + 1) (ys ++ [y])) no s₃) ∧
          (ok = false → Act B s (s.heap.objs.size + 2) [(x, v)] [(s.heap.objs.size + 1, lst ys m), (s.heap.objs.size, o)] T0 s₃ ∧ F (i + 1) ys)) no s')
    (fin : ∀ ys m s', F n ys → Act B s (s.heap.objs.size + 2) [] [(s.heap.objs.size + 1, lst ys m)] T0 s' → compPost (model PR w) A no use Q (.ref (s.heap.objs.size + 1)) (s.heap.objs.size + 2) (.ok .next) s')
    (hcell : ∀ y ∈ scope.names, y.2 ≠ .cell := by decide) (hkind : scope.kind = .function := by rfl) (hx : scope.names.lookup x = some .local := by rfl) :
    CompTail w A env (.ListComp elt [⟨.Name x px, iter, ifs, 0⟩] scope pos) scope cl use Q v s := by
  refine comp_frame D o₀ hit hof hcell hkind fun s' D' => ?_
  have loop : codeAny (model PR w) A (.compLoop (.ListComp elt [⟨.Name x px, iter, ifs, 0⟩] scope pos) 0 (.ref s.heap.objs.size) (.ref (s.heap.objs.size + 1)) (compEnvC scope cl (s.heap.objs.size + 2) env)) (compPost (model PR w) A no use Q (.ref (s.heap.objs.size + 1)) (s.heap.objs.size + 2)) s' := by
    refine codeAny_compLoop_tests (fun k s' => ∃ i ys m o, k = n - i ∧ i ≤ n ∧ ob i o ∧ F i ys ∧ Act B s (s.heap.objs.size + 2) [] [(s.heap.objs.size + 1, lst ys m), (s.heap.objs.size, o)] T0 s') ?_ n ⟨0, [], 0, o₀, rfl, Nat.zero_le _, ho, h0, D'⟩
    rintro k s₁ ⟨i, ys, m, o, rfl, hi, hob, hFi, D1⟩
    by_cases hlt : i < n
    · refine wpAny_mono (E := no) (W.step D1 1 rfl hob (hb _ D1.ext) hlt fun v s₂ o' hv ho' D2 => ?_) (fun _ _ x => x) fun _ _ x => x.elim
      have D2 : Act B s (s.heap.objs.size + 2) [] [(s.heap.objs.size + 1, lst ys m), (s.heap.objs.size, o')] T0 s₂ := D2
      refine wpAny_assign_Name (wpAny_mono (E := no) (stL D2 (fun s₃ D3 => ?_) (by simp [compEnvC, relabel, hkind]) (lookup_relabel_local hx) rfl) (fun _ _ x => x) fun _ _ x => x.elim)
      have D3 : Act B s (s.heap.objs.size + 2) [(x, v)] [(s.heap.objs.size + 1, lst ys m), (s.heap.objs.size, o')] T0 s₃ := D3
      refine wpAny_mono (turn i v o' ys m s₃ hlt hv ho' hFi D3) (fun ok s₄ h₄ => ?_) fun _ _ x => x.elim
      cases ok with
      | false =>
        rw [if_neg Bool.false_ne_true]
        exact ⟨n - (i + 1), by first | decide | assumption | exact a1 ‹_› | exact a2 ‹_› | exact a3 ‹_› (by decide) | exact dl ‹_› | exact ee ‹_› ‹_› | lia | omega, i + 1, ys, m, o', rfl, hlt, ho', (h₄.2 rfl).2, (h₄.2 rfl).1.drop fun x v e => by cases e⟩
      | true =>
        rw [if_pos rfl]
        refine wpAny_mono (h₄.1 rfl) (fun y s₅ h₅ => ?_) fun _ _ x => x.elim
        obtain ⟨D5, hF5⟩ := h₅
        refine wpAny_mono (E := no) (h_append (D5.at 0 rfl) (hF _ _ hFi) fun s₆ hl => ?_) (fun _ _ x => x) fun _ _ x => x.elim
        obtain ⟨m', D6⟩ := D5.left 0 rfl (hard_seq rfl) hl
        exact ⟨n - (i + 1), by first | decide | assumption | exact a1 ‹_› | exact a2 ‹_› | exact a3 ‹_› (by decide) | exact dl ‹_› | exact ee ‹_› ‹_› | lia | omega, i + 1, _, m', o', rfl, hlt, ho', hF5, (show Act B s (s.heap.objs.size + 2) [(x, v)] [(s.heap.objs.size + 1, lst (ys ++ [y]) m'), (s.heap.objs.size, o')] T0 s₆ from D6).drop fun x v e => by cases e⟩
    · have hin : i = n := by first | decide | assumption | exact a1 ‹_› | exact a2 ‹_› | exact a3 ‹_› (by decide) | exact dl ‹_› | exact ee ‹_› ‹_› | lia | omega
      subst hin
      refine wpAny_mono (E := no) (W.end D1 1 rfl hob (hb _ D1.ext) fun s₂ D2 => fin ys m s₂ hFi D2) (fun _ _ x => x) fun _ _ x => x.elim
  exact codeAny_compStart_list loop (wpAny_mono (W.self 0 s' _ o₀ (D'.at 1 rfl) ho loop) (fun _ _ x => x) fun _ _ x => x.elim)
end
noncomputable def occ (tx ty : List Nat) : Bool := (List.range (ty.length + 1)).any fun k => decide (k + tx.length ≤ ty.length) && ((ty.drop k).take tx.length == tx)
theorem occ_iff (tx ty : List Nat) : occ tx ty = true ↔ ∃ k, k + tx.length ≤ ty.length ∧ (ty.drop k).take tx.length = tx := by
  unfold occ
  rw [List.any_eq_true]
  constructor
  · rintro ⟨k, _, h⟩
    rw [Bool.and_eq_true] at h
    exact ⟨k, of_decide_eq_true h.1, by simpa using h.2⟩
  · rintro ⟨k, h1, h2⟩
    exact ⟨k, List.mem_range.mpr (by first | decide | assumption | exact a1 ‹_› | exact a2 ‹_› | exact a3 ‹_› (by decide) | exact dl ‹_› | exact ee ‹_› ‹_› | lia | omega), by rw [Bool.and_eq_true]; exact ⟨decide_eq_true h1, by simpa using h2⟩⟩
noncomputable abbrev tup (xs : List Value) (n : Nat) : Obj := { cls := .type "tuple", data := .seq xs.toArray n }
theorem tup_is {h : Heap} {a : Addr} {xs : List Value} {n : Nat} (e : h.get? a = some (tup xs n)) : IsTup h a xs.toArray := ⟨_, e, rfl, n, rfl⟩
section
variable {w : World} {B : Heap} {A : Around} {s₀ s : Shared} {L : Addr} {l : List (Str × Value)} {N : List (Addr × Obj)} {P : Heap → Prop} {env : Env} {a b : Addr} {xs ys : List Value} {n m : Nat} {tx ty : List Nat} {i j : Nat} {t u : Tok} {Q : Value → Shared → Prop}
theorem n_list (D : Act B s₀ L l N P s) (hz : xs.length ≤ 1000) (h : ∀ a s', Act B s₀ L l ((a, lst xs 0) :: N) P s' → Q (.ref a) s') : wpAny (model PR w) A (newList xs) Q no s :=
  wpAny_newObj_type (h _ _ (D.push (lst xs 0) rfl)) (by show xs.toArray.size ≤ sizeLine; rw [List.size_toArray, sizeLine_eq]; first | with_reducible exact a3 ‹_› (by decide) | lia | omega)
theorem n_tup (D : Act B s₀ L l N P s) (hz : xs.length ≤ 1000) (h : ∀ a s', Act B s₀ L l ((a, tup xs 0) :: N) P s' → Q (.ref a) s') : wpAny (model PR w) A (newTuple xs) Q no s :=
  wpAny_newObj_type (h _ _ (D.push (tup xs 0) rfl)) (by show xs.toArray.size ≤ sizeLine; rw [List.size_toArray, sizeLine_eq]; first | with_reducible exact a3 ‹_› (by decide) | lia | omega)
theorem u_item {value slice : Expr} {x : Value} (ha : s.heap.get? a = some (tup xs n)) (hx : xs[i]? = some x) (hi : i ≤ 1000) (h : Q x s)
    (hs : subscripted slice false (.ref a) (.int (i : Int) u) = operate [.ref a, .int (i : Int) u] (getItem (.ref a) (.int (i : Int) u)) := by with_unfolding_all rfl) (hg : ∀ r, letTemporaryGo value (.ref a) r = pure () := by intro _; with_unfolding_all rfl) :
    wpAny (model PR w) A (subscriptTail value slice (.ref a) (.int (i : Int) u)) Q no s := by
  have hlt : i < xs.length := (List.getElem?_eq_some_iff.mp hx).1
  refine item_tupleL (j := i) (x := x) (tup_is ha) (by first | decide | assumption | exact a1 ‹_› | exact a2 ‹_› | exact a3 ‹_› (by decide) | exact dl ‹_› | exact ee ‹_› ‹_› | lia | omega) (by first | with_reducible exact s58 ‹_› | lia | omega) ?_ hx h hs hg
  unfold seqIndex?
  simp only [show ¬ ((i : Int) < 0) by first | decide | assumption | exact a1 ‹_› | exact a2 ‹_› | exact a3 ‹_› (by decide) | exact dl ‹_› | exact ee ‹_› ‹_› | lia | omega, if_false]
  simp [hlt]
/- texts -/
theorem t_item {value slice : Expr} {c : Nat} (D : Act B s₀ L l N P s) (hc : tx[i]? = some c) (hz : tx.length ≤ 1000) (h : ∀ s' t', Act B s₀ L l N P s' → Q (.str (S [c]) t') s')
    (hs : subscripted slice false (.str (S tx) t) (.int (i : Int) u) = operate [.str (S tx) t, .int (i : Int) u] (getItem (.str (S tx) t) (.int (i : Int) u)) := by with_unfolding_all rfl)
    (ht : ∀ r, letTemporaryGo value (.str (S tx) t) r = pure () := by intro _; with_unfolding_all rfl) :
    wpAny (model PR w) A (subscriptTail value slice (.str (S tx) t) (.int (i : Int) u)) Q no s := by
  have hlt : i < tx.length := (List.getElem?_eq_some_iff.mp hc).1
  have e : Txt.item (S tx) (i : Int) = S [c] := by
    unfold Txt.item S
    have e1 : seqIndex? (i : Int) (⟨tx.toArray⟩ : Str).length = some i := by
      unfold seqIndex?
      simp only [show ¬ ((i : Int) < 0) by first | decide | assumption | exact a1 ‹_› | exact a2 ‹_› | exact a3 ‹_› (by decide) | exact dl ‹_› | exact ee ‹_› ‹_› | lia | omega, if_false]
      simp [Str.length, hlt]
    simp [e1, Txt.charAt, hc]
  refine PyProof.Rows.item_str ?_ (by rw [S_len]; first | lia | omega) (by rw [S_len]; first | with_reducible exact s20 ‹_› | lia | omega) (fun _ => ?_) hs ht
  · simp [fitsSsize]; first | exact s61 ‹_› ‹_› | lia | omega
  · rw [e]; exact h _ _ (D.tok _)
theorem t_len (D : Act B s₀ L l N P s) (hz : tx.length ≤ 1000) (h : ∀ s' t', Act B s₀ L l N P s' → Q (.int (tx.length : Int) t') s') : wpAny (model PR w) A (call (.builtin "len") [.str (S tx) t]) Q no s := by
  refine PySem.P.len_str (by rw [S_len]; first | lia | omega) ?_
  rw [S_len]; exact h _ _ (D.tok _)
theorem t_eq (h : Q (.bool (tx == ty)) s) : wpAny (model PR w) A (compareOp .Eq (.str (S tx) t) (.str (S ty) u)) Q no s := PySem.P.eq_str h
theorem t_ne (h : Q (.bool (tx != ty)) s) : wpAny (model PR w) A (compareOp .NotEq (.str (S tx) t) (.str (S ty) u)) Q no s := PySem.P.ne_str h
theorem t_mul (D : Act B s₀ L l N P s) (hz : tx.length ≤ 1000) (hi : i ≤ 1000) (h : ∀ s' t', Act B s₀ L l N P s' → Q (.str (S (List.replicate i tx).flatten) t') s') :
    wpAny (model PR w) A (binaryOp .Mult (.str (S tx) t) (.int (i : Int) u)) Q no s := by
  have hm : tx.length * i ≤ 1000 * 1000 := Nat.mul_le_mul hz hi
  refine PySem.P.mul_str (by simp; first | with_reducible exact s60 ‹_› | lia | omega) (fun h1 _ => ?_) (fun h1 _ => ?_) ?_
  · rw [S_len]
    have : (1000 : Int) ≤ (2 ^ 63 - 1) / (i : Int) := by
      apply Int.le_ediv_of_mul_le <;> first | lia | omega
    first | lia | omega
  · rw [S_len, Int.toNat_natCast]; simp [Builtin.Str.tooLong]; rw [sizeLine_eq]; first | with_reducible exact a3 ‹_› (by decide) | lia | omega
  · by_cases h0 : i = 0
    · subst h0
      rw [if_pos (by decide)]
      exact ⟨by show 0 ≤ sizeLine; first | exact Nat.le_add_left .. | lia | omega, h _ _ (D.tok _)⟩
    · rw [if_neg (by first | decide | assumption | exact a1 ‹_› | exact a2 ‹_› | exact a3 ‹_› (by decide) | exact dl ‹_› | exact ee ‹_› ‹_› | lia | omega)]
      split
      · rename_i hq
        have e : (List.replicate i tx).flatten = tx := by
          simp only [Bool.or_eq_true, beq_iff_eq, S_len] at hq
          rcases hq with hq | hq
          · have : i = 1 := by first | decide | assumption | exact a1 ‹_› | exact a2 ‹_› | exact a3 ‹_› (by decide) | exact dl ‹_› | exact ee ‹_› ‹_› | lia | omega
            subst this; simp
          · have : tx = [] := List.length_eq_zero_iff.mp hq
            subst this; simp
        have := h s t D
        rw [e] at this
        exact this
      · have e : (⟨(List.replicate (i : Int).toNat (S tx).cps).foldl (· ++ ·) #[]⟩ : Str) = S (List.replicate i tx).flatten := by
          rw [Int.toNat_natCast]
          unfold S
          congr 1
          have key : ∀ (k : Nat) (acc : Array Nat), (List.replicate k tx.toArray).foldl (· ++ ·) acc = acc ++ (List.replicate k tx).flatten.toArray := by
            intro k
            induction k with
            | zero => intro acc; simp
            | succ k ih => intro acc; rw [List.replicate_succ, List.foldl_cons, ih, List.replicate_succ, List.flatten_cons]; simp
          rw [key]; simp
        rw [e]
        refine ⟨?_, h _ _ (D.tok _)⟩
        rw [S_len, List.length_flatten, List.map_replicate, List.sum_replicate_nat, sizeLine_eq]
        have : i * tx.length ≤ 1000 * 1000 := Nat.mul_le_mul hi hz
        first | lia | omega
theorem t_in (h : Q (.bool (occ tx ty)) s) : wpAny (model PR w) A (compareOp .In (.str (S tx) t) (.str (S ty) u)) Q no s := by
  refine PySem.P.in_str ?_
  have e : (!(Builtin.Str.occurrences (S ty) (S tx) 0 (S ty).length 1).isEmpty) = occ tx ty := by
    rw [Bool.eq_iff_iff, StrLaws.found_iff, occ_iff]
    have key : ∀ k, Builtin.Str.subAt (S ty) (S tx) k = true ↔ (ty.drop k).take tx.length = tx := fun k => by
      unfold Builtin.Str.subAt
      rw [S_len, beq_iff_eq, S_cps, S_cps]
      constructor
      · intro h
        have := congrArg Array.toList h
        simpa [List.drop_take, Nat.add_sub_cancel_left] using this
      · intro h
        apply Array.ext'
        simpa [List.drop_take, Nat.add_sub_cancel_left] using h
    simp only [S_len, key]
  rw [e]; exact h
theorem t_ord {c : Nat} (D : Act B s₀ L l N P s) (h : ∀ s' t', Act B s₀ L l N P s' → Q (.int (c : Int) t') s') : wpAny (model PR w) A (call (.builtin "ord") [.str (S [c]) t]) Q no s :=
  PyProof.Rows.ord_of_one (by rw [S_len]; rfl) (h _ _ (D.tok _))
theorem t_chr {c : Nat} (D : Act B s₀ L l N P s) (hc : c ≤ 1000) (h : ∀ s' t', Act B s₀ L l N P s' → Q (.str (S [c]) t') s') : wpAny (model PR w) A (call (.builtin "chr") [.int (c : Int) t]) Q no s :=
  PyProof.Rows.chr_of_range (by first | decide | assumption | exact a1 ‹_› | exact a2 ‹_› | exact a3 ‹_› (by decide) | exact dl ‹_› | exact ee ‹_› ‹_› | lia | omega) (by first | decide | assumption | exact a1 ‹_› | exact a2 ‹_› | exact a3 ‹_› (by decide) | exact dl ‹_› | exact ee ‹_› ‹_› | lia | omega) (by rw [Int.toNat_natCast]; exact h _ _ (D.tok _))
end
theorem map_inj {α β : Type} {f : α → β} (hf : ∀ a b, f a = f b → a = b) : ∀ {l m : List α}, l.map f = m.map f → l = m
  | [], [], _ => rfl
  | [], _ :: _, h => by simp at h
  | _ :: _, [], h => by simp at h
  | a :: l, b :: m, h => by
    simp only [List.map_cons, List.cons.injEq] at h
    rw [hf _ _ h.1, map_inj hf h.2]
theorem strsOk : ∀ ss : List (List Nat), (∀ t ∈ ss, ∀ c ∈ t, c ≤ 1000) → (ss.map S).all PyData.strOk = true := fun ss h => by
  rw [List.all_map, List.all_eq_true]
  intro t ht
  show (S t).cps.all (· < 0x110000) = true
  rw [Array.all_eq_true']
  intro c hc
  have : c ≤ 1000 := h t ht c (by simpa [S] using hc)
  simp; first | with_reducible exact Nat.lt_of_le_of_lt ‹_› (by decide) | lia | omega
theorem noMix_strs : ∀ ns ms : List Str, SeqAt.noMixAll (ns.map PyData.str) (ms.map PyData.str) = true
  | [], [] => by simp [SeqAt.noMixAll]
  | [], _ :: _ => by simp [SeqAt.noMixAll]
  | _ :: _, [] => by simp [SeqAt.noMixAll]
  | _ :: r, _ :: q => by simp [SeqAt.noMixAll, SeqAt.noMix, noMix_strs r q]
theorem same_strs : ∀ ns ms : List Str, PySem.Spec.sameAll (ns.map PyData.str) (ms.map PyData.str) = decide (ns = ms)
  | [], [] => by simp [PySem.Spec.sameAll]
  | [], _ :: _ => by simp [PySem.Spec.sameAll]
  | _ :: _, [] => by simp [PySem.Spec.sameAll]
  | n :: r, k :: q => by
    simp only [List.map_cons, PySem.Spec.sameAll, PySem.Spec.same, same_strs r q]
    by_cases h : n = k <;> simp [h]
theorem reads_of_strs {h : Heap} {a : Addr} {vs : List Value} {ns : List Str} (hl : h.IsList a vs.toArray) (hi : StrsAre vs ns) : Reads h (.ref a) (.list (ns.map PyData.str)) [a] := by
  obtain ⟨o, ho, hc, n, hd⟩ := hl
  exact Reads.list ho hc hd (by simpa using StrsAre.reads h hi)
theorem shaped_strs (ss : List (List Nat)) (h : ∀ t ∈ ss, ∀ c ∈ t, c ≤ 1000) : SeqAt.shaped (.list ((ss.map S).map PyData.str)) = true := by
  show (PyData.canLay0 (.list ((ss.map S).map PyData.str)) && decide (PyData.depth (.list ((ss.map S).map PyData.str)) ≤ 64)) = true
  rw [Bool.and_eq_true]
  refine ⟨?_, decide_eq_true ?_⟩
  · simp only [PyData.canLay0]; rw [canLayAll_strs']; exact strsOk ss h
  · simp only [PyData.depth]; rw [depthAll_strs']; decide

theorem lt_toList : ∀ a b : List Nat, PySem.Spec.ltCps a b = decide (a < b)
  | [], [] => by simp [PySem.Spec.ltCps]
  | [], _ :: _ => by simp [PySem.Spec.ltCps]
  | _ :: _, [] => by simp [PySem.Spec.ltCps]
  | x :: a, y :: b => by
    have e : (x == y) = decide (x = y) := rfl
    simp only [PySem.Spec.ltCps, lt_toList a b, List.cons_lt_cons_iff, e, Bool.decide_or, Bool.decide_and]
theorem risingS_pw : ∀ (ss : List (List Nat)) (p : List Nat), risingS (S p) (ss.map S) = true → (p :: ss).Pairwise (fun a b => ¬ b < a)
  | [], p, _ => List.pairwise_singleton ..
  | x :: r, p, h => by
    simp only [List.map_cons, risingS, Bool.and_eq_true] at h
    have h1 : ¬ x < p := by
      have := h.1
      rw [show (S x).cps.toList = x from rfl, show (S p).cps.toList = p from rfl, lt_toList] at this
      simpa using this
    have ih := risingS_pw r x h.2
    refine List.Pairwise.cons (fun b hb => ?_) ih
    rcases List.mem_cons.mp hb with rfl | hb
    · exact h1
    · have h2 := (List.pairwise_cons.mp ih).1 b hb
      exact fun hlt => by
        have h1' : p ≤ x := h1
        have h2' : x ≤ b := h2
        exact (List.le_trans h1' h2') hlt
theorem sortedS_pw : ∀ (ss : List (List Nat)), sortedS (ss.map S) = true → ss.Pairwise (fun a b => ¬ b < a)
  | [], _ => List.Pairwise.nil
  | x :: r, h => risingS_pw r x h

theorem pick_from (xs : List Value) (i : Nat) : slicePick xs.toArray (some (i : Int)) none none = (xs.drop i).toArray := slicePick_from' ..
theorem pick_upto (xs : List Value) (i : Nat) : slicePick xs.toArray none (some (i : Int)) none = (xs.take i).toArray := slicePick_upto' ..
theorem pick_run (xs : List Value) (i j : Nat) : slicePick xs.toArray (some (i : Int)) (some (j : Int)) none = ((xs.take j).drop i).toArray := by
  rw [slicePick_plain]
  simp only [Option.elim, clipAt_nat, List.size_toArray]
  congr 1
  exact seg_min xs i j
theorem pick_tail (xs : List Value) (k : Nat) (hk : 1 ≤ k) : slicePick xs.toArray (some (-(k : Int))) none none = (xs.drop (xs.length - k)).toArray := by
  rw [slicePick_plain]
  simp only [Option.elim, clipAt_neg _ _ hk, List.size_toArray]
  congr 1
  exact List.take_of_length_le (by simp)
theorem pick_tail2 (xs : List Value) (k j : Nat) (hk : 1 ≤ k) (hj : 1 ≤ j) : slicePick xs.toArray (some (-(k : Int))) (some (-(j : Int))) none = ((xs.take (xs.length - j)).drop (xs.length - k)).toArray := by
  rw [slicePick_plain]
  simp only [Option.elim, clipAt_neg _ _ hk, clipAt_neg _ _ hj, List.size_toArray]
  congr 1
  rw [List.drop_take]
theorem pick_rev (xs : List Value) : slicePick xs.toArray none none (some (-1)) = xs.reverse.toArray := by
  unfold slicePick
  have e : sliceBounds none none (some (-1)) xs.toArray.size = ((xs.length : Int) - 1, -1, -1) := by
    simp [sliceBounds]
  rw [e]
  unfold sliceRange
  have e2 : (if (-1 : Int) > 0 then (if (xs.length : Int) - 1 < -1 then ((-1 : Int) - ((xs.length : Int) - 1) + -1 - 1) / -1 else 0) else if (xs.length : Int) - 1 > -1 then ((xs.length : Int) - 1 - -1 - -1 - 1) / - -1 else 0).toNat = xs.length := by
    rw [if_neg (by decide), Int.neg_neg, Int.ediv_one]
    split <;> first | lia | omega
  simp only [e2]
  congr 1
  apply List.ext_getElem?
  intro k
  have key : ∀ m, m ≤ xs.length → ((List.range m).map fun (k : Nat) => ((xs.length : Int) - 1 + -1 * (k : Int)).toNat).filterMap (xs.toArray[·]?) = xs.reverse.take m := by
    intro m
    induction m with
    | zero => intro _; simp
    | succ m ih =>
      intro hm
      rw [List.range_succ, List.map_append, List.filterMap_append, ih (by first | decide | assumption | exact a1 ‹_› | exact a2 ‹_› | exact a3 ‹_› (by decide) | exact dl ‹_› | exact ee ‹_› ‹_› | lia | omega), List.take_add_one]
      congr 1
      have e : ((xs.length : Int) - 1 + -1 * (m : Int)).toNat = xs.length - 1 - m := by first | with_reducible exact t8 ‹_› | lia | omega
      simp only [List.map_cons, List.map_nil, e]
      rw [List.getElem?_reverse (by first | decide | assumption | exact a1 ‹_› | exact a2 ‹_› | exact a3 ‹_› (by decide) | exact dl ‹_› | exact ee ‹_› ‹_› | lia | omega)]
      have hlt : xs.length - 1 - m < xs.length := by first | with_reducible exact t9 ‹_› | lia | omega
      simp [hlt]
  rw [key xs.length (Nat.le_refl _), List.take_of_length_le (by simp)]

section
variable {w : World} {B : Heap} {A : Around} {s₀ s : Shared} {L : Addr} {l : List (Str × Value)} {N : List (Addr × Obj)} {P : Heap → Prop} {env : Env} {a b : Addr} {xs ys : List Value} {n m : Nat} {tx ty : List Nat} {i j : Nat} {t u : Tok} {Q : Value → Shared → Prop}
theorem l_slice {value slice : Expr} {vl vu vk : Value} {lo hi st : Option Int} {ops : List Value} (D : Act B s₀ L l N P s) (ha : s.heap.IsList a xs.toArray) (hz : xs.length ≤ 1000) (pl : IsPart vl lo) (pu : IsPart vu hi) (pk : IsPart vk st) (h0 : st ≠ some 0)
    (hp : slicePick xs.toArray lo hi st = ys.toArray)
    (h : ∀ a' s', Act B s₀ L l ((a', lst ys 0) :: N) P s' → Q (.ref a') s')
    (hs : subscripted slice false (.ref a) (.ref s.heap.objs.size) = operate ops (getItem (.ref a) (.ref s.heap.objs.size)) := by with_unfolding_all rfl)
    (ht : ∀ r, letTemporaryGo value (.ref a) r = pure () := by intro _; with_unfolding_all rfl) :
    wpAny (model PR w) A (subscriptTail value slice (.ref a) (.ref s.heap.objs.size)) Q no { s with heap := s.heap.push { cls := .type "slice", data := .fields #[vl, vu, vk] } } := by
  have D1 := D.push { cls := .type "slice", data := .fields #[vl, vu, vk] } rfl
  refine subscriptTail_ops (Heap.IsList.typeIs (s := { s with heap := s.heap.push { cls := .type "slice", data := .fields #[vl, vu, vk] } }) (ha.push _)) list_getitem_lookup
    (wpAny_getItem_list_slice (ha.push _) (Heap.IsSliceOf.new ..) pl pu pk h0 ?_ (by rw [List.size_toArray, sizeLine_eq]; first | with_reducible exact a3 ‹_› (by decide) | lia | omega)) hs ht
  rw [hp]
  exact h _ _ ((D1.push (lst ys 0) rfl).sub (List.Sublist.cons_cons _ (List.sublist_cons_self ..)))
theorem l_add (D : Act B s₀ L l N P s) (ha : s.heap.get? a = some (lst xs n)) (hb : s.heap.get? b = some (lst ys m)) (hz : xs.length ≤ 1000) (hz2 : ys.length ≤ 1000)
    (h : ∀ a' s', Act B s₀ L l ((a', lst (xs ++ ys) 0) :: N) P s' → Q (.ref a') s') : wpAny (model PR w) A (binaryOp .Add (.ref a) (.ref b)) Q no s := by
  refine PySem.P.add_list (n := n) (n2 := m) ha hb ?_ (by rw [List.size_toArray, List.size_toArray, sizeLine_eq]; first | lia | omega)
  have e : xs.toArray ++ ys.toArray = (xs ++ ys).toArray := by simp
  rw [e]
  exact h _ _ (D.push (lst (xs ++ ys) 0) rfl)
theorem fold_app {α : Type} (xs : List α) : ∀ (k : Nat) (acc : Array α), (List.replicate k xs.toArray).foldl (fun x1 x2 => x1 ++ x2) acc = acc ++ (List.replicate k xs).flatten.toArray := by
  intro k
  induction k with
  | zero => intro acc; simp
  | succ k ih => intro acc; rw [List.replicate_succ, List.foldl_cons, ih, List.replicate_succ, List.flatten_cons]; simp
theorem l_mulI {items : Array Value} {k : Nat} {x : Int} (ha : s.heap.get? a = some { cls := .type "list", dict := none, data := .seq items k, slots := #[] }) (hlo : -(2 ^ 63 : Int) ≤ x) (hhi : x < 2 ^ 63) (hsz : items.size * x.toNat ≤ 2 ^ 24)
    (h : Q (.ref s.heap.objs.size) { s with heap := s.heap.push { cls := .type "list", data := .seq (List.foldl (fun x1 x2 => x1 ++ x2) #[] (List.replicate (if items.isEmpty = true then 0 else x.toNat) items)) } }) :
    wpAny (model PR w) A (binaryOp .Mult (.ref a) (.int x u)) Q no s :=
  wpAny_binaryOp_repeat_ref (T := "list") (U := "int") (by decide) ⟨_, ha, rfl⟩ (fun s' => typeIs_int s' x u) noFill_list_mul F.fills_int_mul F.slot_int_rmul repeat_list F.slot_int_index.lookup
    (call_meets F.slot_int_rmul (typeIs_int s x u) F.entry_int_rmul (F.args_int_rmul_2 _ _) (int___rmul___int_list x u a items k)
      ⟨ha, rfl, ⟨_, ha, rfl⟩, call_meets F.slot_list_mul ⟨_, ha, rfl⟩ F.entry_list_mul (F.args_list_mul_2 _ _)
        (AutoListH.list___mul___list_int_3 a items k x u (by simp [Builtin.List.listFitsIndex]; first | with_reducible exact t56 ‹_› ‹_› | lia | omega) (by first | decide | assumption | exact a1 ‹_› | exact a2 ‹_› | exact a3 ‹_› (by decide) | exact dl ‹_› | exact ee ‹_› ‹_› | lia | omega) (by simp [Builtin.List.listTooLong, sizeLine]; first | assumption | lia | omega))
        ⟨ha, h⟩⟩)
theorem l_mul (D : Act B s₀ L l N P s) (ha : s.heap.get? a = some (lst xs n)) (hz : xs.length ≤ 1000) (hi : i ≤ 1000)
    (h : ∀ a' s', Act B s₀ L l ((a', lst (List.replicate i xs).flatten 0) :: N) P s' → Q (.ref a') s') : wpAny (model PR w) A (binaryOp .Mult (.ref a) (.int (i : Int) u)) Q no s := by
  have hm : xs.length * i ≤ 1000 * 1000 := Nat.mul_le_mul hz hi
  refine l_mulI (items := xs.toArray) (k := n) ha (by first | decide | assumption | exact a1 ‹_› | exact a2 ‹_› | exact a3 ‹_› (by decide) | exact dl ‹_› | exact ee ‹_› ‹_› | lia | omega) (by first | with_reducible exact s58 ‹_› | lia | omega) (by rw [Int.toNat_natCast, List.size_toArray]; first | with_reducible exact a3 ‹_› (by decide) | lia | omega) ?_
  have e : List.foldl (fun x1 x2 => x1 ++ x2) #[] (List.replicate (if xs.toArray.isEmpty = true then 0 else (i : Int).toNat) xs.toArray) = (List.replicate i xs).flatten.toArray := by
    rw [Int.toNat_natCast]
    split
    · rename_i h0
      have : xs = [] := by simpa using h0
      subst this; simp
    · rw [fold_app]; simp
  rw [e]
  exact h _ _ (D.push (lst (List.replicate i xs).flatten 0) rfl)
theorem l_eqN {ps qs : List Nat} (ha : s.heap.IsList a xs.toArray) (hb : s.heap.IsList b ys.toArray) (hp : Nats xs ps) (hq : Nats ys qs) (hu : A.units + 64 < cLine) (h : Q (.bool (ps == qs)) s) : wpAny (model PR w) A (compareOp .Eq (.ref a) (.ref b)) Q no s := by
  refine eq_intsK ha hp hb hq hu ?_
  have e : decide (ps.map Int.ofNat = qs.map Int.ofNat) = (ps == qs) := by
    by_cases h : ps = qs
    · subst h; simp
    · have : ps.map Int.ofNat ≠ qs.map Int.ofNat := fun e => h (map_inj (fun _ _ => Int.ofNat.inj) e)
      simp [h, this]
  rw [e]; exact h
theorem l_neN {ps qs : List Nat} (ha : s.heap.IsList a xs.toArray) (hb : s.heap.IsList b ys.toArray) (hp : Nats xs ps) (hq : Nats ys qs) (hu : A.units + 64 < cLine) (h : Q (.bool (ps != qs)) s) : wpAny (model PR w) A (compareOp .NotEq (.ref a) (.ref b)) Q no s := by
  refine ne_intsK ha hp hb hq hu ?_
  have e : decide (ps.map Int.ofNat = qs.map Int.ofNat) = (ps == qs) := by
    by_cases h : ps = qs
    · subst h; simp
    · have : ps.map Int.ofNat ≠ qs.map Int.ofNat := fun e => h (map_inj (fun _ _ => Int.ofNat.inj) e)
      simp [h, this]
  rw [e]; exact h
noncomputable abbrev Txts (xs : List Value) (ss : List (List Nat)) : Prop := StrsAre xs (ss.map S)
theorem l_neT {ps qs : List (List Nat)} (ha : s.heap.IsList a xs.toArray) (hb : s.heap.IsList b ys.toArray) (hp : Txts xs ps) (hq : Txts ys qs) (h1 : ∀ t ∈ ps, ∀ c ∈ t, c ≤ 1000) (h2 : ∀ t ∈ qs, ∀ c ∈ t, c ≤ 1000) (hu : A.units + 64 < cLine) (h : Q (.bool (ps != qs)) s) :
    wpAny (model PR w) A (compareOp .NotEq (.ref a) (.ref b)) Q no s := by
  refine ne_dataH_same (reads_of_strs ha hp) (reads_of_strs hb hq) (shaped_strs ps h1) (shaped_strs qs h2) hu (by simp only [SeqAt.noMix]; exact noMix_strs _ _) ?_
  simp only [PySem.Spec.same]
  rw [same_strs]
  have e : decide (ps.map S = qs.map S) = (ps == qs) := by
    by_cases h : ps = qs
    · subst h; simp
    · have : ps.map S ≠ qs.map S := fun e => h (map_inj (fun _ _ => S_inj) e)
      simp [h, this]
  rw [e]; exact h
theorem c_max (D : Act B s₀ L l N P s) (hh : A.handled = none) {x y : Int} (h : ∀ s' t', Act B s₀ L l N P s' → Q (.int (max x y) t') s') : wpAny (model PR w) A (call (.builtin "max") [.int x t, .int y u]) Q no s := by
  refine max_two_ints hh fun h' tk k => ?_
  have D' := D.to (D.hp.keeps k) tk
  by_cases c : y > x
  · rw [if_pos c]; have := h _ u D'; rwa [Int.max_eq_right (by first | decide | assumption | exact a1 ‹_› | exact a2 ‹_› | exact a3 ‹_› (by decide) | exact dl ‹_› | exact ee ‹_› ‹_› | lia | omega)] at this
  · rw [if_neg c]; have := h _ t D'; rwa [Int.max_eq_left (by first | decide | assumption | exact a1 ‹_› | exact a2 ‹_› | exact a3 ‹_› (by decide) | exact dl ‹_› | exact ee ‹_› ‹_› | lia | omega)] at this
theorem ints_items : ∀ {vs : List Value} {ns : List Int}, IntsAre vs ns → ∃ ps : List (Int × Tok), vs.toArray = intItems ps.toArray ∧ ps.map (·.1) = ns
  | _, _, .nil => ⟨[], by simp [intItems], rfl⟩
  | _, _, .cons n t h => by
    obtain ⟨ps, e1, e2⟩ := ints_items h
    refine ⟨(n, t) :: ps, ?_, by simp [e2]⟩
    have := congrArg Array.toList e1
    simp [intItems] at this
    apply Array.ext'
    simp [intItems, this]
theorem c_min {ps : List Nat} (D : Act B s₀ L l N P s) (hh : A.handled = none) (ha : s.heap.IsList a xs.toArray) (hp : Nats xs ps) (hne : ps ≠ []) (h : ∀ s' t' M, Act B s₀ L l N P s' → M ∈ ps → (∀ x ∈ ps, M ≤ x) → Q (.int (M : Nat) t') s') :
    wpAny (model PR w) A (call (.builtin "min") [.ref a]) Q no s := by
  obtain ⟨zs, e1, e2⟩ := ints_items hp
  rw [e1] at ha
  have hl : zs.length = ps.length := by have := congrArg List.length e2; simpa using this
  have hpos : 0 < ps.length := List.length_pos_iff.mpr hne
  refine min_intList hh ha (by rw [List.size_toArray, hl]; exact hpos) fun v h' tk hv k => ?_
  have D' := D.to (D.hp.keeps k) tk
  obtain ⟨b1, b2⟩ := argBest_lt (numAt zs.toArray) (zs.toArray.size - 1)
  obtain ⟨t', rfl⟩ := intItems_at hv
  generalize argBest (fun i j => decide (numAt zs.toArray i < numAt zs.toArray j)) (zs.toArray.size - 1) = k₀ at *
  have num : ∀ j (hj : j < ps.length), numAt zs.toArray j = (ps[j] : Int) := fun j hj => by
    have e3 := congrArg (fun z => z[j]?) e2
    simp only [List.getElem?_map, List.getElem?_eq_getElem hj, Option.map_some] at e3
    unfold numAt
    rw [List.getElem?_toArray, e3]; rfl
  rw [List.size_toArray, hl] at b1 b2
  rw [num k₀ (by first | decide | assumption | exact a1 ‹_› | exact a2 ‹_› | exact a3 ‹_› (by decide) | exact dl ‹_› | exact ee ‹_› ‹_› | lia | omega)]
  refine h _ t' _ D' (List.getElem_mem _) fun x hx => ?_
  obtain ⟨j, hj, rfl⟩ := List.mem_iff_getElem.mp hx
  have := b2 j (by first | with_reducible exact s3 ‹_› | lia | omega)
  rw [num j hj, num k₀ (by first | decide | assumption | exact a1 ‹_› | exact a2 ‹_› | exact a3 ‹_› (by decide) | exact dl ‹_› | exact ee ‹_› ‹_› | lia | omega)] at this
  first | lia | omega
theorem c_sortN {ps : List Nat} (D : Act B s₀ L l N P s) (ha : s.heap.IsList a xs.toArray) (hp : Nats xs ps) (hz : ps.length < 64)
    (h : ∀ a' s' ys qs n, Act B s₀ L l ((a', lst ys n) :: N) P s' → Nats ys qs → qs.Perm ps → qs.Pairwise (· ≤ ·) → Q (.ref a') s') : wpAny (model PR w) A (call (.builtin "sorted") [.ref a]) Q no s := by
  refine sorted_ints ha hp (by rw [hp.len]; exact hz) fun out ns' h1 h2 h3 => ?_
  obtain ⟨e, he⟩ := sortedAll_at s.heap xs out
  have D' := D.to' (h' := sortedAll s.heap xs out) (D.hp.keeps fun _ _ => sortedAll_old)
  have nn : ∀ x ∈ ns', 0 ≤ x := fun x hx => by
    have := h2.mem_iff.mp hx
    obtain ⟨y, _, rfl⟩ := List.mem_map.mp this
    exact Int.natCast_nonneg y
  have e3 : (ns'.map Int.toNat).map Int.ofNat = ns' := by
    rw [List.map_map]
    conv => rhs; rw [← List.map_id ns']
    exact List.map_congr_left fun x hx => by have := nn x hx; simp; first | with_reducible exact s62 ‹_› | lia | omega
  refine h _ _ out.toList (ns'.map Int.toNat) e ⟨D'.hp.more ⟨Nat.le_trans D.hp.hl (Nat.le_of_lt (Nat.lt_succ_of_lt D.hp.ltL)), Nat.ne_of_gt (Nat.lt_succ_of_lt D.hp.ltL)⟩ (fun p hq => Nat.lt_succ_of_lt (D.hp.lt hq)) he, D'.like⟩ ?_ ?_ ?_
  · show IntsAre _ _
    rw [e3]; exact h1
  · have := h2.map Int.toNat
    rw [List.map_map, show (Int.toNat ∘ Int.ofNat) = id from funext fun x => rfl, List.map_id] at this
    exact this
  · exact List.pairwise_map.mpr (h3.imp fun h => Int.toNat_le_toNat h)
end
structure Got (s s' : Shared) (M : List (Addr × Obj)) : Prop where
  aft : Aft s s'
  mine : ∀ p ∈ M, s'.heap.get? p.1 = some p.2 ∧ s.heap.objs.size ≤ p.1
  ord : (M.map (·.1)).Pairwise (· > ·)
section
variable {w : World} {B : Heap} {A : Around} {s₀ s s' : Shared} {L : Addr} {l : List (Str × Value)} {N M : List (Addr × Obj)} {P : Heap → Prop} {env : Env} {a b : Addr} {xs ys : List Value} {n m : Nat} {tx ty : List Nat} {i j k : Nat} {t u : Tok} {Q : Value → Shared → Prop}
theorem Act.got (D : Act B s₀ L l N P s) : Got s₀ s N := ⟨D.done, fun p hp => ⟨D.hp.get p hp, (D.hp.own p hp).1⟩, D.hp.ord⟩
theorem Got.sub (x : Got s s' N) (h : M.Sublist N) : Got s s' M := ⟨x.aft, fun p hp => x.mine p (h.subset hp), x.ord.sublist (h.map _)⟩
theorem Act.take (D : Act B s₀ L l N P s) (x : Got s s' M) : Act B s₀ L l (M ++ N) P s' := by
  have D1 := D.aft x.aft
  have hL := D.hp.ltL
  refine ⟨{ D1.hp with
    get := fun p hp => ?_
    own := fun p hp => ?_
    ord := ?_ }, D1.like⟩
  · rcases List.mem_append.mp hp with hp | hp
    · exact (x.mine p hp).1
    · exact D1.hp.get p hp
  · rcases List.mem_append.mp hp with hp | hp
    · have := (x.mine p hp).2
      exact ⟨Nat.le_trans D.hp.hl (Nat.le_trans (Nat.le_of_lt hL) this), Nat.ne_of_gt (Nat.lt_of_lt_of_le hL this)⟩
    · exact D1.hp.own p hp
  · rw [List.map_append]
    refine List.pairwise_append.mpr ⟨x.ord, D.hp.ord, fun a ha b hb => ?_⟩
    obtain ⟨p, hp, rfl⟩ := List.mem_map.mp ha
    obtain ⟨q, hq, rfl⟩ := List.mem_map.mp hb
    exact Nat.lt_of_lt_of_le (D.hp.lt hq) (x.mine p hp).2
theorem x_unpack {elts : List Expr} {kk : Nat} {tpos : Pos} {value : Expr} {pos : Pos} {rest : List Stmt} {Qf : Flow → Shared → Prop}
    (h : wpAny (model PR w) A (eval value env) (fun v s₁ => wpAny (model PR w) A (assign (.Tuple elts kk tpos) env v) (fun _ s₂ => wpAny (model PR w) A (execs rest env) Qf no s₂) no s₁) no s)
    (hs : swapsWithSole [.Tuple elts kk tpos] value pos.line env = pure false := by rfl)
    (hw : swappedStores [.Tuple elts kk tpos] value env = pure none := by rfl) :
    wpAny (model PR w) A (execs (.Assign [.Tuple elts kk tpos] value pos :: rest) env) Qf no s := x_cons (Assign_Tuple h hs hw)
theorem as_nil {Qu : Unit → Shared → Prop} {ts : List (Value → Sem Unit)} (h : Qu () s) (he : ts = [] := by rfl) : wpAny (model PR w) A (assignInOrder ts []) Qu no s := by subst he; exact wpAny_pure h
theorem as_cons {Qu : Unit → Shared → Prop} {tg : Value → Sem Unit} {ts : List (Value → Sem Unit)} {x : Value} {xs : List Value} (h : wpAny (model PR w) A (tg x) (fun _ s₁ => wpAny (model PR w) A (assignInOrder ts xs) Qu no s₁) no s) :
    wpAny (model PR w) A (assignInOrder (tg :: ts) (x :: xs)) Qu no s := by
  show wpAny _ _ (do holding xs (tg x); assignInOrder ts xs) _ _ _
  exact wpAny_bind (wpAny_holding h)

theorem stC {x : Str} {v : Value} {v₀ : Option Value} {c : Addr} {o : Obj} {Qu : Unit → Shared → Prop} (D : Act B s₀ L l N T0 s) (i : Nat) (hi : N[i]? = some (c, o)) (ho : o.data = .cell v₀)
    (h : ∀ s' o', o'.data = .cell (some v) → Act B s₀ L l (N.set i (c, o')) T0 s' → Qu () s') (hc : env.cells.lookup x = some c := by rfl) (hk : env.scope.kind = .function := by rfl) (hx : env.kindOf x = some .cell := by rfl) :
    wpAny (model PR w) A (storeName env x v) Qu no s := by
  refine wpAny_storeName_cell hk hx hc ⟨o, D.at i hi, ho⟩ fun h' hv hs => ?_
  obtain ⟨o', e, hd⟩ := hv
  exact h _ o' hd (D.to' (D.hp.turnP i hi (fun vs c t e1 => by rw [ho] at e1; cases e1) trivial (fun b ob hb e => (hs.2 b hb).trans e) e))
theorem o_mul {x y : Int} (D : Act B s₀ L l N P s) (hm : IntMulOk x y) (h : ∀ s' t, Act B s₀ L l N P s' → Q (.int (x * y) t) s') : wpAny (model PR w) A (binaryOp .Mult (.int x t) (.int y u)) Q no s := PyProof.Rows.mul_int (h _ _ (D.tok _)) hm
theorem c_sortT {ps : List (List Nat)} (D : Act B s₀ L l N P s) (ha : s.heap.IsList a xs.toArray) (hp : Txts xs ps) (hz : ps.length < 64)
    (h : ∀ a' s' ys qs n, Act B s₀ L l ((a', lst ys n) :: N) P s' → Txts ys qs → qs.Perm ps → qs.Pairwise (fun a b => ¬ b < a) → Q (.ref a') s') : wpAny (model PR w) A (call (.builtin "sorted") [.ref a]) Q no s := by
  refine sorted_strs ha hp (by have := hp.strs; have := congrArg List.length this; simp at this; first | lia | omega) fun out ss' h1 h2 h3 => ?_
  obtain ⟨e, he⟩ := sortedAll_at s.heap xs out
  have D' := D.to' (h' := sortedAll s.heap xs out) (D.hp.keeps fun _ _ => sortedAll_old)
  have e3 : (ss'.map fun x => x.cps.toList).map S = ss' := by
    rw [List.map_map]
    conv => rhs; rw [← List.map_id ss']
    exact List.map_congr_left fun x _ => by simp [S]
  refine h _ _ out.toList (ss'.map fun x => x.cps.toList) e ⟨D'.hp.more ⟨Nat.le_trans D.hp.hl (Nat.le_of_lt (Nat.lt_succ_of_lt D.hp.ltL)), Nat.ne_of_gt (Nat.lt_succ_of_lt D.hp.ltL)⟩ (fun p hq => Nat.lt_succ_of_lt (D.hp.lt hq)) he, D'.like⟩ ?_ ?_ ?_
  · show StrsAre _ _
    rw [e3]; exact h1
  · have := h2.map fun x => x.cps.toList
    rw [List.map_map, show ((fun x : Str => x.cps.toList) ∘ S) = id from funext fun x => rfl, List.map_id] at this
    exact this
  · refine sortedS_pw _ ?_
    rw [e3]; exact h3
theorem c_join {ps : List Nat} (D : Act B s₀ L l N P s) (ha : s.heap.IsList a xs.toArray) (hp : Txts xs (ps.map fun c => [c])) (hz : ps.length ≤ 1000)
    (h : ∀ s' t', Act B s₀ L l N P s' → Q (.str (S ps) t') s') : wpAny (model PR w) A (call (.builtin "str.join") [.str (S []) t, .ref a]) Q no s := by
  refine join_list ha hp ?_ fun t' k => ?_
  · rw [S_len]
    have : (List.map (fun x => Str.length x) (List.map S (List.map (fun c => [c]) ps))).sum = ps.length := by
      rw [List.map_map, List.map_map]
      have e : (((fun x => Str.length x) ∘ S) ∘ fun c => [c]) = fun _ : Nat => 1 := funext fun c => S_len [c]
      rw [e, List.map_const', List.sum_replicate_nat, Nat.mul_one]
    rw [this, List.length_nil, Nat.mul_zero]; first | exact a3 ‹_› (by decide) | lia | omega
  · have e : Txt.join (S []) ((ps.map fun c => [c]).map S) = S ps := by
      rw [List.map_map]
      refine Eq.trans (b := Str.join ⟨#[]⟩ (ps.map fun k => (⟨#[k]⟩ : Str))) ?_ (join_ones ps)
      exact StrLaws.glued_eq_join _ _
    rw [e]; exact h _ _ (D.tok _)
end
theorem boot_range : bootBuiltins (Str.ofString "range") = some (.type "range") := by decide +kernel
theorem boot_zip : bootBuiltins (Str.ofString "zip") = some (.type "zip") := by decide +kernel
theorem boot_max : bootBuiltins (Str.ofString "max") = some (.builtin "max") := by decide +kernel
theorem boot_min : bootBuiltins (Str.ofString "min") = some (.builtin "min") := by decide +kernel
theorem boot_ord : bootBuiltins (Str.ofString "ord") = some (.builtin "ord") := by decide +kernel
theorem boot_chr : bootBuiltins (Str.ofString "chr") = some (.builtin "chr") := by decide +kernel
theorem boot_sorted : bootBuiltins (Str.ofString "sorted") = some (.builtin "sorted") := by decide +kernel
section
variable {w : World} {B : Heap} {A : Around} {s₀ s s' : Shared} {L : Addr} {l : List (Str × Value)} {N M : List (Addr × Obj)} {P : Heap → Prop} {env : Env} {pos : Pos} {a b : Addr} {xs ys : List Value} {n m : Nat} {tx ty : List Nat} {i j k : Nat} {t u v : Tok} {Q : Value → Shared → Prop}
theorem c_ty {T : String} {e : Expr} {rest : List Expr} {Q : Value → Shared → Prop} (h : wpAny (model PR w) A (spliced (backTo pos (starEach (e :: rest) env))) (fun vs s₁ => wpAny (model PR w) A (call (.type T) vs) Q no s₁) no s)
    (hp : (backTo pos (starEach (e :: rest) env)).any (·.1) = false := by rfl)
    (he : starEach (e :: rest) env = (false, eval e env) :: starEach rest env := by rfl) : wpAny (model PR w) A (callWith pos (.type T) [] (backTo pos (starEach (e :: rest) env)) []) Q no s := by
  refine PySem.callWith_type (first := []) hp ?_
  rw [he] at h ⊢
  exact evalArgs_plain h
theorem r_1 {x : Int} (D : Act B s₀ L l N P s) (h : ∀ r s' t u v, Act B s₀ L l N P s' → IsRange s'.heap r 0 x 1 t u v → Q (.ref r) s') : wpAny (model PR w) A (call (.type "range") [.int x t]) Q no s :=
  call_range_1 (h _ _ _ _ _ (D.to (D.hp.keeps fun _ _ e => Heap.get?_push_of_some _ e) _) (IsRange.new ..))
theorem r_2 {x y : Int} (D : Act B s₀ L l N P s) (h : ∀ r s' t u v, Act B s₀ L l N P s' → IsRange s'.heap r x y 1 t u v → Q (.ref r) s') : wpAny (model PR w) A (call (.type "range") [.int x t, .int y u]) Q no s :=
  call_range_2 (h _ _ _ _ _ (D.to (D.hp.keeps fun _ _ e => Heap.get?_push_of_some _ e) _) (IsRange.new ..))
theorem r_3 {x : Int} (hx : 0 ≤ x + 1 ∧ x ≤ 1000) (D : Act B s₀ L l N P s) (h : ∀ r s' t u v, Act B s₀ L l N P s' → IsRange s'.heap r x (-1) (-1) t u v → Q (.ref r) s') : wpAny (model PR w) A (call (.type "range") [.int x t, .int (-1) u, .int (-1) v]) Q no s :=
  call_range_3 (by decide) (h _ _ _ _ _ (D.to (D.hp.keeps fun _ _ e => Heap.get?_push_of_some _ e) _) (IsRange.new ..)) (.inl (PyProof.noPylong_small (by first | decide | assumption | exact a1 ‹_› | exact a2 ‹_› | exact a3 ‹_› (by decide) | exact dl ‹_› | exact ee ‹_› ‹_› | lia | omega)))
theorem i_r1 {r : Addr} (D : Act B s₀ L l N P s) (hr : IsRange s.heap r 0 (n : Int) 1 t u v) (hn : n ≤ 1000) (h : ∀ I o s', RI 0 1 n 0 o → Act B s₀ L l ((I, o) :: N) P s' → Q (.ref I) s') : wpAny (model PR w) A (pyIter (.ref r)) Q no s :=
  i_range D hr (small_one (by first | decide | assumption | exact a1 ‹_› | exact a2 ‹_› | exact a3 ‹_› (by decide) | exact dl ‹_› | exact ee ‹_› ‹_› | lia | omega) (by first | decide | assumption | exact a1 ‹_› | exact a2 ‹_› | exact a3 ‹_› (by decide) | exact dl ‹_› | exact ee ‹_› ‹_› | lia | omega) (by first | decide | assumption | exact a1 ‹_› | exact a2 ‹_› | exact a3 ‹_› (by decide) | exact dl ‹_› | exact ee ‹_› ‹_› | lia | omega) (by first | with_reducible exact s59 ‹_› | lia | omega)) (by rw [rangeSize_one]; split <;> first | exact rfl | exact t50 ‹_› | lia | omega) h
theorem i_r2 {r : Addr} (D : Act B s₀ L l N P s) (hr : IsRange s.heap r (m : Int) (n : Int) 1 t u v) (hn : n ≤ 1000) (hm : m ≤ 1000) (h : ∀ I o s', RI m 1 (n - m) 0 o → Act B s₀ L l ((I, o) :: N) P s' → Q (.ref I) s') : wpAny (model PR w) A (pyIter (.ref r)) Q no s :=
  i_range D hr (small_one (by first | decide | assumption | exact a1 ‹_› | exact a2 ‹_› | exact a3 ‹_› (by decide) | exact dl ‹_› | exact ee ‹_› ‹_› | lia | omega) (by first | with_reducible exact s59 ‹_› | lia | omega) (by first | decide | assumption | exact a1 ‹_› | exact a2 ‹_› | exact a3 ‹_› (by decide) | exact dl ‹_› | exact ee ‹_› ‹_› | lia | omega) (by first | with_reducible exact s59 ‹_› | lia | omega)) (by rw [rangeSize_one]; split <;> first | with_reducible exact t65 ‹_› | with_reducible exact t50 ‹_› | lia | omega) h
theorem size_down (n : Nat) : Builtin.Range.rangeSize ((n : Int) - 1) (-1) (-1) = (n : Int) := by
  unfold Builtin.Range.rangeSize
  rw [if_neg (by decide), Int.neg_neg, Int.ediv_one]
  split <;> first | lia | omega
theorem i_r3 {r : Addr} (D : Act B s₀ L l N P s) (hr : IsRange s.heap r ((n : Int) - 1) (-1) (-1) t u v) (hn : n ≤ 1000) (h : ∀ I o s', RI ((n : Int) - 1) (-1) n 0 o → Act B s₀ L l ((I, o) :: N) P s' → Q (.ref I) s') : wpAny (model PR w) A (pyIter (.ref r)) Q no s :=
  i_range D hr (by unfold Builtin.Range.small; rw [size_down]; simp [Builtin.Range.rangeFitsLong]; first | with_reducible exact t42 ‹_› | lia | omega) (size_down n) h
theorem a_append {x : Value} (D : Act B s₀ L l N P s) (i : Nat) (hi : N[i]? = some (a, lst xs n)) (hz : xs.length ≤ 1000) (h : ∀ s' n', Act B s₀ L l (N.set i (a, lst (xs ++ [x]) n')) P s' → Q .none s') :
    wpAny (model PR w) A (call (.builtin "list.append") [.ref a, x]) Q no s :=
  h_append (D.at i hi) hz fun s' hl => by
    obtain ⟨n', D'⟩ := D.left i hi (hard_seq rfl) hl
    exact h _ _ D'
theorem a_extend (D : Act B s₀ L l N P s) (i : Nat) (hi : N[i]? = some (a, lst xs n)) (hb : s.heap.get? b = some (lst ys m)) (hz : xs.length ≤ 1000) (hz2 : ys.length ≤ 1000) (h : ∀ s' n', Act B s₀ L l (N.set i (a, lst (xs ++ ys) n')) P s' → Q .none s') :
    wpAny (model PR w) A (call (.builtin "list.extend") [.ref a, .ref b]) Q no s :=
  h_extend (D.at i hi) hb hz hz2 fun s' hl => by
    obtain ⟨n', D'⟩ := D.left i hi (hard_seq rfl) hl
    exact h _ _ D'
theorem a_insert {y : Value} {z : Int} (D : Act B s₀ L l N P s) (i : Nat) (hi : N[i]? = some (a, lst xs n)) (hz : xs.length ≤ 1000) (k : Nat) (hk : z = (k : Int)) (hl : k ≤ xs.length) (h : ∀ s' n', Act B s₀ L l (N.set i (a, lst (xs.take k ++ y :: xs.drop k) n')) P s' → Q .none s') :
    wpAny (model PR w) A (call (.builtin "list.insert") [.ref a, .int z u, y]) Q no s :=
  h_insertI hk (D.at i hi) hz hl fun s' hl => by
    obtain ⟨n', D'⟩ := D.left i hi (hard_seq rfl) hl
    exact h _ _ D'
theorem a_pop {y : Value} (D : Act B s₀ L l N P s) (i : Nat) (hi : N[i]? = some (a, lst (xs ++ [y]) n)) (hz : xs.length ≤ 1000) (h : ∀ s' n', Act B s₀ L l (N.set i (a, lst xs n')) P s' → Q y s') :
    wpAny (model PR w) A (call (.builtin "list.pop") [.ref a]) Q no s :=
  h_pop (D.at i hi) hz fun s' hl => by
    obtain ⟨n', D'⟩ := D.left i hi (hard_seq rfl) hl
    exact h _ _ D'
end
theorem Nats.app {xs ys : List Value} {ps qs : List Nat} (h : Nats xs ps) (k : Nats ys qs) : Nats (xs ++ ys) (ps ++ qs) := by
  show IntsAre _ _
  rw [List.map_append]; exact IntsAre.append h k
theorem Nats.one (p : Nat) (t : Tok) : Nats [.int (p : Int) t] [p] := .cons _ _ .nil
theorem Nats.rep {xs : List Value} {ps : List Nat} (h : Nats xs ps) : ∀ n, Nats (List.replicate n xs).flatten (List.replicate n ps).flatten
  | 0 => .nil
  | n + 1 => by rw [List.replicate_succ, List.flatten_cons, List.replicate_succ, List.flatten_cons]; exact h.app (Nats.rep h n)
theorem Nats.drop {xs : List Value} {ps : List Nat} (h : Nats xs ps) (k : Nat) : Nats (xs.drop k) (ps.drop k) := by
  show IntsAre _ _
  rw [List.map_drop]; exact IntsAre.drop h k
theorem Nats.take {xs : List Value} {ps : List Nat} (h : Nats xs ps) (k : Nat) : Nats (xs.take k) (ps.take k) := by
  show IntsAre _ _
  rw [List.map_take]; exact IntsAre.take h k
theorem rep_one {α : Type} (x : α) : ∀ n, (List.replicate n [x]).flatten = List.replicate n x
  | 0 => rfl
  | n + 1 => by rw [List.replicate_succ, List.flatten_cons, rep_one x n, List.replicate_succ]; rfl
section
variable {w : World} {B : Heap} {A : Around} {s₀ s : Shared} {L : Addr} {l : List (Str × Value)} {N : List (Addr × Obj)} {P : Heap → Prop} {t u : Tok} {Q : Value → Shared → Prop}
theorem sub_any {E : Value → Shared → Prop} {value slice : Expr} {o i : Value} (h : wpAny (model PR w) A (subscriptTail (.Name (Str.ofString "t") ⟨0, 0, 0, 0⟩) slice o i) Q E s) : wpAny (model PR w) A (subscriptTail value slice o i) Q E s :=
  PySem.W.kba_turn (fun _ => rfl) h
theorem o_neg {x : Int} (D : Act B s₀ L l N P s) (h : ∀ s' t, Act B s₀ L l N P s' → Q (.int (-x) t) s') : wpAny (model PR w) A (unaryOp .USub (.int x t)) Q no s := PyProof.Rows.neg_int (h _ _ (D.tok _))
theorem o_mulK {x y z : Int} (hk : x * y = z) (hb : 0 ≤ x ∧ x ≤ 1000) (D : Act B s₀ L l N P s) (h : ∀ s' t, Act B s₀ L l N P s' → Q (.int z t) s') : wpAny (model PR w) A (binaryOp .Mult (.int x t) (.int y u)) Q no s :=
  o_mul D (IntMulOk.of_left (by
    unfold Builtin.Int.intBits
    have : x.natAbs ≤ 1000 := by first | exact t25 ‹_› rfl | lia | omega
    have h2 : x.natAbs.log2 < 64 := by
      by_cases h0 : x.natAbs = 0
      · rw [h0]; decide
      · exact (Nat.log2_lt h0).mpr (by first | decide | assumption | exact a1 ‹_› | exact a2 ‹_› | exact a3 ‹_› (by decide) | exact dl ‹_› | exact ee ‹_› ‹_› | lia | omega)
    split <;> first | with_reducible exact Nat.le_add_left .. | assumption | lia | omega)) (hk ▸ h)
theorem o_modN {a b : Nat} {x y : Int} (hx : x = (a : Int)) (hy : y = (b : Int)) (hb : 0 < b) (D : Act B s₀ L l N P s) (h : ∀ s' t, Act B s₀ L l N P s' → Q (.int ((a % b : Nat) : Int) t) s') : wpAny (model PR w) A (binaryOp .Mod (.int x t) (.int y u)) Q no s := by
  subst hx hy
  refine o_mod (by first | exact s20 ‹_› | lia | omega) D ?_
  rw [Int.fmod_eq_emod_of_nonneg _ (by first | decide | assumption | exact a1 ‹_› | exact a2 ‹_› | exact a3 ‹_› (by decide) | exact dl ‹_› | exact ee ‹_› ‹_› | lia | omega)]
  exact h
end
section
variable {w : World} {A : Around} {s : Shared} {env : Env} {Q : Flow → Shared → Prop} {rest : List Stmt}
theorem x_ifB {test body orelse pos} (bb : Bool) (T : Shared → Prop) (ht : wpAny (model PR w) A (isTrue test env (eval test env)) (fun b s₁ => b = bb ∧ T s₁) no s)
    (h1 : bb = true → ∀ s₁, T s₁ → wpAny (model PR w) A (execs body env) (nxt (model PR w) A env rest Q no) no s₁) (h2 : bb = false → ∀ s₁, T s₁ → wpAny (model PR w) A (execs orelse env) (nxt (model PR w) A env rest Q no) no s₁) :
    wpAny (model PR w) A (execs (.If test body orelse pos :: rest) env) Q no s :=
  x_if (wpAny_mono ht (fun b s₁ h => ⟨fun e => h1 (h.1.symm.trans e) s₁ h.2, fun e => h2 (h.1.symm.trans e) s₁ h.2⟩) fun _ _ x => x)
theorem x_ifBK {test body orelse pos} (bb : Bool) (T : Shared → Prop) (ht : ∀ K : Bool → Shared → Prop, (∀ b s₁, (b = bb ∧ T s₁) → K b s₁) → wpAny (model PR w) A (isTrue test env (eval test env)) K no s)
    (h1 : bb = true → ∀ s₁, T s₁ → wpAny (model PR w) A (execs body env) (nxt (model PR w) A env rest Q no) no s₁) (h2 : bb = false → ∀ s₁, T s₁ → wpAny (model PR w) A (execs orelse env) (nxt (model PR w) A env rest Q no) no s₁) :
    wpAny (model PR w) A (execs (.If test body orelse pos :: rest) env) Q no s := x_ifB bb T (ht _ fun _ _ x => x) h1 h2
end
section
variable {w : World} {B : Heap} {A : Around} {s₀ s : Shared} {L : Addr} {l : List (Str × Value)} {N : List (Addr × Obj)} {P : Heap → Prop} {env : Env} {n : Nat}
theorem comp_r1 {elt iter : Expr} {x : Str} {px : Pos} {ifs : List Expr} {scope : Scope} {cl : List (Str × Addr)} {pos : Pos} {use : Option (Value → Sem Unit)} {Q : Value → Shared → Prop} {r : Addr} {t u v : Tok} (D : Act B s₀ L l N P s) (hh : A.handled = none)
    (hr : IsRange s.heap r 0 (n : Int) 1 t u v) (hn : n ≤ 1000) (F : Nat → List Value → Prop) (h0 : F 0 []) (hF : ∀ i ys, F i ys → ys.length ≤ 1000)
    (turn : ∀ i t o ys m s', i < n → F i ys → Act B s (s.heap.objs.size + 2) [(x, .int (i : Int) t)] [(s.heap.objs.size + 1, lst ys m), (s.heap.objs.size, o)] T0 s' →
      wpAny (model PR w) A (forIn ifs true fun c r => if r = true then do let ok ← isTrue c (compEnvC scope cl (s.heap.objs.size + 2) env) (eval c (compEnvC scope cl (s.heap.objs.size + 2) env)); pure (ForInStep.yield ok) else pure (ForInStep.yield r))
        (fun ok s₃ => (ok = true → wpAny (model PR w) A (eval elt (compEnvC scope cl (s.heap.objs.size + 2) env)) (fun y s₄ => Act B s (s.heap.objs.size + 2) [(x, .int (i : Int) t)] [(s.heap.objs.size + 1, lst ys m), (s.heap.objs.size, o)] T0 s₄ ∧ F (i + 1) (ys ++ [y])) no s₃) ∧
          (ok = false → Act B s (s.heap.objs.size + 2) [(x, .int (i : Int) t)] [(s.heap.objs.size + 1, lst ys m), (s.heap.objs.size, o)] T0 s₃ ∧ F (i + 1) ys)) no s')
    (fin : ∀ ys m s', F n ys → Act B s (s.heap.objs.size + 2) [] [(s.heap.objs.size + 1, lst ys m)] T0 s' → compPost (model PR w) A no use Q (.ref (s.heap.objs.size + 1)) (s.heap.objs.size + 2) (.ok .next) s')
    (hcell : ∀ y ∈ scope.names, y.2 ≠ .cell := by decide) (hkind : scope.kind = .function := by rfl) (hx : scope.names.lookup x = some .local := by rfl) :
    CompTail w A env (.ListComp elt [⟨.Name x px, iter, ifs, 0⟩] scope pos) scope cl use Q (.ref r) s :=
  comp_turns D { cls := .type "range_iterator", data := .fields #[rawInt 0, rawInt (Builtin.Range.rangeSize 0 (n : Int) 1), rawInt 1] }
    (fun Q' h => wpAny_pyIter_range hr (small_one (by first | decide | assumption | exact a1 ‹_› | exact a2 ‹_› | exact a3 ‹_› (by decide) | exact dl ‹_› | exact ee ‹_› ‹_› | lia | omega) (by first | decide | assumption | exact a1 ‹_› | exact a2 ‹_› | exact a3 ‹_› (by decide) | exact dl ‹_› | exact ee ‹_› ‹_› | lia | omega) (by first | decide | assumption | exact a1 ‹_› | exact a2 ‹_› | exact a3 ‹_› (by decide) | exact dl ‹_› | exact ee ‹_› ‹_› | lia | omega) (by first | with_reducible exact s59 ‹_› | lia | omega)) h) rfl (It.range hh 0 1 n)
    (by unfold RI; rw [rangeSize_one, show (0 : Int) + ((0 : Nat) : Int) * 1 = 0 by simp, show (if (0 : Int) < n then (n : Int) - 0 else 0) = (n : Int) - ((0 : Nat) : Int) by split <;> first | exact rfl | exact t50 ‹_› | lia | omega]) (fun _ _ => trivial) F h0 hF
    (fun i v o ys m s' hi hv ho hFi D' => by
      obtain ⟨t, rfl⟩ := hv
      rw [show (0 : Int) + (i : Int) * 1 = (i : Int) by first | decide | assumption | exact a1 ‹_› | exact a2 ‹_› | exact a3 ‹_› (by decide) | exact dl ‹_› | exact ee ‹_› ‹_› | lia | omega] at D' ⊢
      exact turn i t o ys m s' hi hFi D') fin hcell hkind hx
theorem comp_list {elt iter : Expr} {x : Str} {px : Pos} {ifs : List Expr} {scope : Scope} {cl : List (Str × Addr)} {pos : Pos} {use : Option (Value → Sem Unit)} {Q : Value → Shared → Prop} {a : Addr} {xs : List Value} (D : Act B s₀ L l N P s) (hh : A.handled = none)
    (ha : s.heap.IsList a xs.toArray) (F : Nat → List Value → Prop) (h0 : F 0 []) (hF : ∀ i ys, F i ys → ys.length ≤ 1000)
    (turn : ∀ i v o ys m s', xs[i]? = some v → F i ys → Act B s (s.heap.objs.size + 2) [(x, v)] [(s.heap.objs.size + 1, lst ys m), (s.heap.objs.size, o)] T0 s' →
      wpAny (model PR w) A (forIn ifs true fun c r => if r = true then do let ok ← isTrue c (compEnvC scope cl (s.heap.objs.size + 2) env) (eval c (compEnvC scope cl (s.heap.objs.size + 2) env)); pure (ForInStep.yield ok) else pure (ForInStep.yield r))
        (fun ok s₃ => (ok = true → wpAny (model PR w) A (eval elt (compEnvC scope cl (s.heap.objs.size + 2) env)) (fun y s₄ => Act B s (s.heap.objs.size + 2) [(x, v)] [(s.heap.objs.size + 1, lst ys m), (s.heap.objs.size, o)] T0 s₄ ∧ F (i + 1) (ys ++ [y])) no s₃) ∧
          (ok = false → Act B s (s.heap.objs.size + 2) [(x, v)] [(s.heap.objs.size + 1, lst ys m), (s.heap.objs.size, o)] T0 s₃ ∧ F (i + 1) ys)) no s')
    (fin : ∀ ys m s', F xs.length ys → Act B s (s.heap.objs.size + 2) [] [(s.heap.objs.size + 1, lst ys m)] T0 s' → compPost (model PR w) A no use Q (.ref (s.heap.objs.size + 1)) (s.heap.objs.size + 2) (.ok .next) s')
    (hcell : ∀ y ∈ scope.names, y.2 ≠ .cell := by decide) (hkind : scope.kind = .function := by rfl) (hx : scope.names.lookup x = some .local := by rfl) :
    CompTail w A env (.ListComp elt [⟨.Name x px, iter, ifs, 0⟩] scope pos) scope cl use Q (.ref a) s :=
  comp_turns D { cls := .type "list_iterator", data := .fields #[.ref a, .int 0 0] } (fun Q' h => wpAny_pyIter_list ha h) rfl (It.list hh (let ⟨_, e, _⟩ := ha; Nat.ne_of_lt (Heap.lt_size e)) xs) ⟨rfl, rfl⟩ (fun h' x => Heap.IsList.ext ha D.ok.tab x) F h0 hF
    (fun i v o ys m s' _ hv _ hFi D' => turn i v o ys m s' hv hFi D') fin hcell hkind hx
theorem Act.thru {L' : Addr} {l' : List (Str × Value)} {N' : List (Addr × Obj)} {P' : Heap → Prop} {s' : Shared} {a : Addr} {o : Obj} (D : Act B s₀ L l N P s) (D' : Act B s L' l' N' P' s') (i : Nat) (hi : N[i]? = some (a, o)) : s'.heap.get? a = some o :=
  D'.ext _ _ (D.hp.n102 (p := (a, o)) (List.mem_of_getElem? hi)) List.not_mem_nil (D.at i hi)
theorem tests0 {env : Env} {Q : Bool → Shared → Prop} (h : Q true s) :
    wpAny (model PR w) A (forIn ([] : List Expr) true fun c r => if r = true then do let ok ← isTrue c env (eval c env); pure (ForInStep.yield ok) else pure (ForInStep.yield r)) Q no s := wpAny_tests_nil h
theorem comp_r1E {elt iter : Expr} {x : Str} {px : Pos} {scope : Scope} {cl : List (Str × Addr)} {pos : Pos} {use : Option (Value → Sem Unit)} {Q : Value → Shared → Prop} {r : Addr} {t u v : Tok} (D : Act B s₀ L l N P s) (hh : A.handled = none)
    (hr : IsRange s.heap r 0 (n : Int) 1 t u v) (hn : n ≤ 1000) (F : Nat → List Value → Prop) (h0 : F 0 []) (hF : ∀ i ys, F i ys → ys.length ≤ 1000)
    (turn : ∀ i t o ys m s', i < n → F i ys → Act B s (s.heap.objs.size + 2) [(x, .int (i : Int) t)] [(s.heap.objs.size + 1, lst ys m), (s.heap.objs.size, o)] T0 s' → ∀ K : Value → Shared → Prop, (∀ y s₄, Act B s (s.heap.objs.size + 2) [(x, .int (i : Int) t)] [(s.heap.objs.size + 1, lst ys m), (s.heap.objs.size, o)] T0 s₄ → F (i + 1) (ys ++ [y]) → K y s₄) → wpAny (model PR w) A (eval elt (compEnvC scope cl (s.heap.objs.size + 2) env)) K no s')
    (fin : ∀ ys m s', F n ys → Act B s (s.heap.objs.size + 2) [] [(s.heap.objs.size + 1, lst ys m)] T0 s' → compPost (model PR w) A no use Q (.ref (s.heap.objs.size + 1)) (s.heap.objs.size + 2) (.ok .next) s')
    (hcell : ∀ y ∈ scope.names, y.2 ≠ .cell := by decide) (hkind : scope.kind = .function := by rfl) (hx : scope.names.lookup x = some .local := by rfl) :
    CompTail w A env (.ListComp elt [⟨.Name x px, iter, [], 0⟩] scope pos) scope cl use Q (.ref r) s :=
  comp_r1 D hh hr hn F h0 hF (fun i t o ys m s' hi hFi D' => tests0 ⟨fun _ => turn i t o ys m s' hi hFi D' _ fun y s₄ p q => ⟨p, q⟩, fun h => (by cases h)⟩) fin hcell hkind hx
theorem comp_listE {elt iter : Expr} {x : Str} {px : Pos} {scope : Scope} {cl : List (Str × Addr)} {pos : Pos} {use : Option (Value → Sem Unit)} {Q : Value → Shared → Prop} {a : Addr} {xs : List Value} (D : Act B s₀ L l N P s) (hh : A.handled = none)
    (ha : s.heap.IsList a xs.toArray) (F : Nat → List Value → Prop) (h0 : F 0 []) (hF : ∀ i ys, F i ys → ys.length ≤ 1000)
    (turn : ∀ i v o ys m s', xs[i]? = some v → F i ys → Act B s (s.heap.objs.size + 2) [(x, v)] [(s.heap.objs.size + 1, lst ys m), (s.heap.objs.size, o)] T0 s' → ∀ K : Value → Shared → Prop, (∀ y s₄, Act B s (s.heap.objs.size + 2) [(x, v)] [(s.heap.objs.size + 1, lst ys m), (s.heap.objs.size, o)] T0 s₄ → F (i + 1) (ys ++ [y]) → K y s₄) → wpAny (model PR w) A (eval elt (compEnvC scope cl (s.heap.objs.size + 2) env)) K no s')
    (fin : ∀ ys m s', F xs.length ys → Act B s (s.heap.objs.size + 2) [] [(s.heap.objs.size + 1, lst ys m)] T0 s' → compPost (model PR w) A no use Q (.ref (s.heap.objs.size + 1)) (s.heap.objs.size + 2) (.ok .next) s')
    (hcell : ∀ y ∈ scope.names, y.2 ≠ .cell := by decide) (hkind : scope.kind = .function := by rfl) (hx : scope.names.lookup x = some .local := by rfl) :
    CompTail w A env (.ListComp elt [⟨.Name x px, iter, [], 0⟩] scope pos) scope cl use Q (.ref a) s :=
  comp_list D hh ha F h0 hF (fun i v o ys m s' hi hFi D' => tests0 ⟨fun _ => turn i v o ys m s' hi hFi D' _ fun y s₄ p q => ⟨p, q⟩, fun h => (by cases h)⟩) fin hcell hkind hx
end
noncomputable def okFn (env : Env) (x : Str) : Bool := env.scope.kind == .function && (env.kindOf x == some .globalImplicit && (!(x == ("__debug__" : Str)) && env.globals == mainGlobals))
section
variable {w : World} {mg mb : Str → Option Value} {B : Heap} {A : Around} {s₀ s : Shared} {L : Addr} {l : List (Str × Value)} {N : List (Addr × Obj)} {P : Heap → Prop} {env : Env} {pos p : Pos} {x : Str} {e : Expr} {rest : List Expr} {Q : Value → Shared → Prop}
theorem fn_G {f : Addr} {fd : FuncData} (G : Gnd w mg mb B) (D : Act B s₀ L l N P s) (g : ∀ {w : World}, nsIn (KK w) mainGlobals x = some (some (.ref f))) (ho : FnIs f fd)
    (h : wpAny (model PR w) A (spliced (backTo pos (starEach (e :: rest) env))) (fun vs s₁ => Ok B s₁.heap ∧ codeAny (model PR w) A (.call (.ref f) ⟨vs, []⟩) (ResQ Q) s₁) no s)
    (hs : env.scope.kind = .function ∧ env.kindOf x = some .globalImplicit ∧ (x == ("__debug__" : Str)) = false ∧ env.globals = mainGlobals ∧ starEach (e :: rest) env = (false, eval e env) :: starEach rest env) :
    wpAny (model PR w) A (eval (.Call (.Name x p) (e :: rest) [] pos) env) Q no s :=
  wpAny_Call_Name_kw (nmG G D g (c_fn G ho h hs.2.2.2.2) hs.1 hs.2.1 hs.2.2.1 hs.2.2.2.1)
theorem fn_Q {f : Addr} {fd : FuncData} (G : Gnd w mg mb B) (D : Act B s₀ L l N P s) (g : ∀ {w : World}, nsIn (KK w) mainGlobals x = some (some (.ref f))) (ho : FnIs f fd)
    (h : wpAny (model PR w) A (spliced (backTo pos (starEach (e :: rest) env))) (fun vs s₁ => Ok B s₁.heap ∧ codeAny (model PR w) A (.call (.ref f) ⟨vs, []⟩) (ResQ Q) s₁) no s)
    (hs : okFn env x = true) (he : starEach (e :: rest) env = (false, eval e env) :: starEach rest env) :
    wpAny (model PR w) A (eval (.Call (.Name x p) (e :: rest) [] pos) env) Q no s := by
  unfold okFn at hs
  rw [Bool.and_eq_true, Bool.and_eq_true, Bool.and_eq_true, beq_iff_eq, beq_iff_eq, beq_iff_eq, Bool.not_eq_true'] at hs
  exact fn_G G D g ho h ⟨hs.1, hs.2.1, hs.2.2.1, hs.2.2.2, he⟩
theorem fn_B {v : Value} (hv : bootBuiltins x = some v) (G : Gnd w mg mb B) (D : Act B s₀ L l N P s) (g : ∀ {w : World}, nsIn (KK w) mainGlobals x = some none)
    (h : wpAny (model PR w) A (spliced (backTo pos (starEach (e :: rest) env))) (fun vs s₁ => wpAny (model PR w) A (call v vs) Q no s₁) no s)
    (hs : env.scope.kind = .function ∧ env.kindOf x = some .globalImplicit ∧ (x == ("__debug__" : Str)) = false ∧ env.globals = mainGlobals ∧ starEach (e :: rest) env = (false, eval e env) :: starEach rest env ∧
      env.builtins = builtinsNs ∧ (x == ("__name__" : Str)) = false ∧ (backTo pos (starEach (e :: rest) env)).any (·.1) = false)
    (hc : (∃ id, v = .builtin id) ∨ ∃ T, v = .type T) : wpAny (model PR w) A (eval (.Call (.Name x p) (e :: rest) [] pos) env) Q no s := by
  refine wpAny_Call_Name_kw (nmB G D g hv hs.2.2.2.2.2.2.1 ?_ hs.1 hs.2.1 hs.2.2.1 hs.2.2.2.1 hs.2.2.2.2.2.1)
  rcases hc with ⟨id, rfl⟩ | ⟨T, rfl⟩
  · exact c_bi h hs.2.2.2.2.2.2.2 hs.2.2.2.2.1
  · exact c_ty h hs.2.2.2.2.2.2.2 hs.2.2.2.2.1
end
noncomputable def drawnStep (cell : Int) (sizes : List Nat) (st : List Nat × List Nat) (k : Nat) : List Nat × List Nat :=
  if k = 0 ∨ (pyFig cell (2 * k)).toNat % 2 = 0 then
    (st.1 ++ [[65, 97, 255, 1].getD ((pyFig cell (2 * k + 1)).toNat % 4) 0], st.2 ++ List.replicate (sizes.getD k 0) ([65, 97, 255, 1].getD ((pyFig cell (2 * k + 1)).toNat % 4) 0))
  else
    (st.1 ++ [256 + (pyFig cell (2 * k + 1)).toNat % st.2.length], st.2 ++ (List.range (sizes.getD k 0)).map fun turn => (st.2.drop ((pyFig cell (2 * k + 1)).toNat % st.2.length)).getD (turn % (st.2.length - (pyFig cell (2 * k + 1)).toNat % st.2.length)) 0)
noncomputable def drawnTo (cell : Int) (sizes : List Nat) : Nat → List Nat × List Nat
  | 0 => ([], [])
  | k + 1 => drawnStep cell sizes (drawnTo cell sizes k) k
theorem pyFig_nn (n : Int) (p : Nat) : 0 ≤ pyFig n p ∧ pyFig n p < 10 := by
  unfold pyFig
  rw [Int.fmod_eq_emod_of_nonneg _ (by decide)]
  first | with_reducible exact s73 | lia | omega
theorem drawn_inv {cell : Int} {sizes : List Nat} (h5 : 5 ≤ sizes.length) (h3 : ∀ z ∈ sizes, 1 ≤ z ∧ z ≤ 3) : ∀ i, i ≤ 5 → (drawnTo cell sizes i).1.length = i ∧ i ≤ (drawnTo cell sizes i).2.length ∧ (drawnTo cell sizes i).2.length ≤ 3 * i
  | 0, _ => ⟨rfl, Nat.le_refl _, Nat.le_refl _⟩
  | i + 1, hi => by
    obtain ⟨h1, h2, h4⟩ := drawn_inv (cell := cell) h5 h3 i (by first | decide | assumption | exact a1 ‹_› | exact a2 ‹_› | exact a3 ‹_› (by decide) | exact dl ‹_› | exact ee ‹_› ‹_› | lia | omega)
    have hs := h3 (sizes.getD i 0) (by rw [List.getD_eq_getElem?_getD, List.getElem?_eq_getElem (by first | exact Nat.lt_of_lt_of_le ‹_› ‹_› | lia | omega)]; exact List.getElem_mem _)
    show (drawnStep cell sizes (drawnTo cell sizes i) i).1.length = _ ∧ _ ≤ (drawnStep cell sizes (drawnTo cell sizes i) i).2.length ∧ (drawnStep cell sizes (drawnTo cell sizes i) i).2.length ≤ _
    unfold drawnStep
    split <;> simp only [List.length_append, List.length_replicate, List.length_map, List.length_range, List.length_cons, List.length_nil] <;> first | lia | omega
section
variable {w : World} {mg mb : Str → Option Value} {B : Heap} {A : Around} {s₀ s : Shared} {R : Result → Shared → Prop} {l : List (Str × Value)}
theorem Ok.inCallC (O : Ok B s.heap) {m cm : Str → Option Value} {x : Str} {v : Option Value} {s₁ : Shared} {cs : List (Str × Addr)} (X : InCallC s s.heap.objs.size m cs cm s₁) (hc : cs.lookup x = some (s.heap.objs.size + 1)) (hv : cm x = v) (hm : ∀ y, m y = l.lookup y) :
    ∃ o, o.data = .cell v ∧ Act B s s.heap.objs.size l [(s.heap.objs.size + 1, o)] T0 s₁ := by
  have D := O.inCall X.toInCall hm
  obtain ⟨o, e, hd⟩ := X.cell _ _ hc
  refine ⟨o, by rw [← hv]; exact hd, D.hp.more ⟨Nat.le_succ _, Nat.succ_ne_self _⟩ (fun _ hp => nomatch hp) e, D.like⟩
noncomputable abbrev drO (s : Shared) (x : Addr) (y : Addr) (us : List Value) (vs : List Value) (n1 : Nat) (n2 : Nat) (oc : Obj) : List (Addr × Obj) := [(y, lst vs n2), (x, lst us n1), (s.heap.objs.size + 1, oc)]
noncomputable abbrev drL (a : Addr) (cell : Int) (tc : Tok) (x : Addr) (y : Addr) : List (Str × Value) := [(Str.ofString "sizes", .ref a), (Str.ofString "cell", .int cell tc), (Str.ofString "symbols", .ref x), (Str.ofString "signs", .ref y)]
noncomputable abbrev drW (a : Addr) (cell : Int) (tc : Tok) (x : Addr) (y : Addr) (i : Nat) (tv : Tok) (wh : Nat) (t : Tok) : List (Str × Value) := [(Str.ofString "sizes", .ref a), (Str.ofString "cell", .int cell tc), (Str.ofString "symbols", .ref x), (Str.ofString "signs", .ref y), (Str.ofString "k", .int (i : Int) tv), (Str.ofString "which", .int (wh : Int) t)]
theorem drawn_spec (G : Gnd w mg mb B) (O : Ok B s.heap) (r : Room 4 A) {cell : Int} {a : Addr} {xs : List Value} {sizes : List Nat} {tc : Tok}
    (ha : s.heap.IsList a xs.toArray) (hp : Nats xs sizes) (h5 : 5 ≤ sizes.length) (hz : sizes.length ≤ 1000) (h3 : ∀ z ∈ sizes, 1 ≤ z ∧ z ≤ 3)
    (k : ∀ s' tp x y ot us vs n m, Got s s' [(tp, ot), (y, lst vs m), (x, lst us n)] → ot = tup [.ref x, .ref y] 0 → Nats us (drawnTo cell sizes 5).1 → Nats vs (drawnTo cell sizes 5).2 → R (.ok (.ret (.ref tp))) s') :
    codeAny (model PR w) A (.call (.ref 93) ⟨[.int cell tc, .ref a], []⟩) R s := by
  refine enterC (fd := F93.1) (binds := [(Str.ofString "cell", .int cell tc), (Str.ofString "sizes", .ref a)]) G O r (F93.2 w) cd93 rfl (BindsTo.of_eq (by rfl)) (by rfl) (by decide) ?_
  intro A s₁ X r
  obtain ⟨oc, hoc, D⟩ := O.inCallC (l := [(Str.ofString "sizes", .ref a), (Str.ofString "cell", .int cell tc)]) (x := Str.ofString "stretch") X (by rfl) (by rfl) (by
    intro y
    show (if y = Str.ofString "sizes" then _ else if y = Str.ofString "cell" then _ else _) = _
    by_cases h1 : y = Str.ofString "cell" <;> by_cases h2 : y = Str.ofString "sizes"
    · rw [h1] at h2; exact absurd h2 (by decide)
    · subst h1; rfl
    · subst h2; rfl
    · rw [if_neg h1, if_neg h2, List.lookup_cons, beq_eq_false_iff_ne.mpr h2, List.lookup_cons, beq_eq_false_iff_ne.mpr h1]; rfl)
  clear X
  refine x_assignK ?_
  intro K9 k9
  refine List_ ?_
  (with_reducible refine sp_nil ?_)
  refine n_list D (by simp) ?_
  intro x s2 D
  refine k9 _ _ ?_
  ((with_reducible refine' stL ?D ?_ ?hk ?hx ?hL); (case hL => exact rfl); (case D => assumption); (case hx => exact rfl); (case hk => exact rfl); intro _ _)
  refine x_assignK ?_
  intro K9 k9
  refine List_ ?_
  (with_reducible refine sp_nil ?_)
  refine n_list (by assumption) (by simp) ?_
  intro y s2 D
  refine k9 _ _ ?_
  ((with_reducible refine' stL ?D ?_ ?hk ?hx ?hL); (case hL => exact rfl); (case D => assumption); (case hx => exact rfl); (case hk => exact rfl); intro _ _)
  refine x_forW (fun I n s' => ∃ i o oc us vs lus lvs l', n = 5 - i ∧ i ≤ 5 ∧ RI 0 1 5 i o ∧ oc.data = .cell l' ∧ Act B s s.heap.objs.size (drL a cell tc x y) ((I, o) :: drO s x y us vs lus lvs oc) T0 s' ∧
    Nats us (drawnTo cell sizes i).1 ∧ Nats vs (drawnTo cell sizes i).2) ?_ ?_
  · intro K9 k9
    (((with_reducible refine' fn_B boot_range ?G ?D b_range ?_ ?hs ?hc); (case hc => exact .inr ⟨_, rfl⟩)); (case hs => (repeat' apply And.intro) <;> exact rfl); (case G => assumption); (case D => assumption))
    ((with_reducible refine sp_cons ?_ ?he); (case he => exact rfl))
    ((with_reducible refine' e_int ?D ?_); (case D => assumption); intro _ _ _)
    (with_reducible refine sp_nil ?_)
    refine r_1 (by assumption) ?_
    intro r s3 t u v D hr
    refine i_r1 (n := 5) D hr (by first | decide | assumption | exact a1 ‹_› | exact a2 ‹_› | exact a3 ‹_› (by decide) | exact dl ‹_› | exact ee ‹_› ‹_› | lia | omega) ?_
    intro I o s4 ho D
    exact k9 _ _ ⟨I, 5, rfl, 0, o, oc, [], [], 0, 0, _, rfl, by first | decide | assumption | exact a1 ‹_› | exact a2 ‹_› | exact a3 ‹_› (by decide) | exact dl ‹_› | exact ee ‹_› ‹_› | lia | omega, ho, hoc, D, .nil, .nil⟩
  · rintro I n s3 ⟨i, o, oc, us, vs, lus, lvs, l', rfl, hi, ho, hoc, D, hus, hvs⟩
    intro W1 z1 r1
    obtain ⟨n1, n2, n3⟩ := drawn_inv (cell := cell) h5 h3 i hi
    by_cases hlt : i < 5
    · refine (It.range r.hh 0 1 5).step D 0 rfl ho trivial hlt ?_
      rintro v s4 o' ⟨tv, rfl⟩ ho' D
      have e0 : (0 : Int) + (i : Int) * 1 = (i : Int) := by first | decide | assumption | exact a1 ‹_› | exact a2 ‹_› | exact a3 ‹_› (by decide) | exact dl ‹_› | exact ee ‹_› ‹_› | lia | omega
      rw [e0]
      ((with_reducible refine' stL ?D ?_ ?hk ?hx ?hL); (case hL => exact rfl); (case D => assumption); (case hx => exact rfl); (case hk => exact rfl); intro _ _)
      refine x_assignK ?_
      intro K9 k9
      ((with_reducible refine' fn_Q ?G ?D g83 F83.2 ?_ ?hs ?he); (case hs => exact Eq.refl true); (case he => exact rfl); (case G => assumption); (case D => assumption))
      ((with_reducible refine sp_cons ?_ ?he); (case he => exact rfl))
      ((with_reducible refine' nmQ ?D ?v ?_ ?o ?L); (case L => exact rfl); (case o => exact Eq.refl true); (case D => assumption); (case v => exact rfl))
      ((with_reducible refine sp_cons ?_ ?he); (case he => exact rfl))
      (with_reducible refine wpAny_BinOp ?_)
      (with_reducible refine wpAny_BinOp ?_)
      ((with_reducible refine' e_int ?D ?_); (case D => assumption); intro _ _ _)
      ((with_reducible refine' nmQ ?D ?v ?_ ?o ?L); (case L => exact rfl); (case o => exact Eq.refl true); (case D => assumption); (case v => exact rfl))
      refine o_mulK (z := ((2 * i : Nat) : Int)) (by first | exact rfl | lia | omega) (by first | decide | assumption | exact a1 ‹_› | exact a2 ‹_› | exact a3 ‹_› (by decide) | exact dl ‹_› | exact ee ‹_› ‹_› | lia | omega) (by assumption) ?_
      intro s5 t5 D
      ((with_reducible refine' e_int ?D ?_); (case D => assumption); intro _ _ _)
      refine o_addK (k := ((2 * i + 1 : Nat) : Int)) (by first | rfl | lia | omega) (by assumption) ?_
      intro s6 t6 D
      (with_reducible refine sp_nil ?_)
      refine ⟨D.ok, ?_⟩
      refine figure_spec G D.ok (r.weak (by decide)) cell (2 * i + 1) (by first | decide | assumption | exact a1 ‹_› | exact a2 ‹_› | exact a3 ‹_› (by decide) | exact dl ‹_› | exact ee ‹_› ‹_› | lia | omega) ?_
      intro s7 t7 X
      have D7 := D.aft X
      obtain ⟨wh, hwh⟩ : ∃ wh : Nat, pyFig cell (2 * i + 1) = (wh : Int) := ⟨(pyFig cell (2 * i + 1)).toNat, by have := pyFig_nn cell (2 * i + 1); first | with_reducible exact s63 ‹_› | lia | omega⟩
      rw [hwh]
      refine k9 _ _ ?_
      refine stL D7 ?_ rfl rfl
      intro s8 D8
      have D8 : Act B s s.heap.objs.size (drW a cell tc x y i tv wh t7) ((I, o') :: drO s x y us vs lus lvs oc) T0 s8 := D8
      clear D7
      refine x_ifBK (decide (i = 0 ∨ (pyFig cell (2 * i)).toNat % 2 = 0)) (fun s' => Act B s s.heap.objs.size (drW a cell tc x y i tv wh t7) ((I, o') :: drO s x y us vs lus lvs oc) T0 s') ?_ ?_ ?_
      · intro K9 k9
        refine wpAny_isTrue_BoolOp ?_
        refine wpAny_allTrue_Or_cons ?_
        ((with_reducible refine wpAny_isTrue_Compare1 ?_ ?hm); (case hm => with_unfolding_all rfl))
        ((with_reducible refine' nmQ ?D ?v ?_ ?o ?L); (case L => exact rfl); (case o => exact Eq.refl true); (case D => assumption); (case v => exact rfl))
        ((with_reducible refine' e_int ?D ?_); (case D => assumption); intro _ _ _)
        (with_reducible refine o_eq ?_)
        (with_reducible refine wpAny_truthy_bool ?_)
        by_cases h0 : i = 0
        · rw [if_pos (by subst h0; rfl)]
          exact k9 _ _ ⟨(decide_eq_true (.inl h0)).symm, by assumption⟩
        · rw [if_neg (by simp; first | assumption | lia | omega)]
          refine wpAny_allTrue_Or_cons ?_
          ((with_reducible refine wpAny_isTrue_Compare1 ?_ ?hm); (case hm => with_unfolding_all rfl))
          (with_reducible refine wpAny_BinOp ?_)
          ((with_reducible refine' fn_Q ?G ?D g83 F83.2 ?_ ?hs ?he); (case hs => exact Eq.refl true); (case he => exact rfl); (case G => assumption); (case D => assumption))
          ((with_reducible refine sp_cons ?_ ?he); (case he => exact rfl))
          ((with_reducible refine' nmQ ?D ?v ?_ ?o ?L); (case L => exact rfl); (case o => exact Eq.refl true); (case D => assumption); (case v => exact rfl))
          ((with_reducible refine sp_cons ?_ ?he); (case he => exact rfl))
          (with_reducible refine wpAny_BinOp ?_)
          ((with_reducible refine' e_int ?D ?_); (case D => assumption); intro _ _ _)
          ((with_reducible refine' nmQ ?D ?v ?_ ?o ?L); (case L => exact rfl); (case o => exact Eq.refl true); (case D => assumption); (case v => exact rfl))
          refine o_mulK (z := ((2 * i : Nat) : Int)) (by first | exact rfl | lia | omega) (by first | decide | assumption | exact a1 ‹_› | exact a2 ‹_› | exact a3 ‹_› (by decide) | exact dl ‹_› | exact ee ‹_› ‹_› | lia | omega) (by assumption) ?_
          intro s9 t9 D9
          (with_reducible refine sp_nil ?_)
          refine ⟨D9.ok, ?_⟩
          refine figure_spec G D9.ok (r.weak (by decide)) cell (2 * i) (by first | decide | assumption | exact a1 ‹_› | exact a2 ‹_› | exact a3 ‹_› (by decide) | exact dl ‹_› | exact ee ‹_› ‹_› | lia | omega) ?_
          intro s10 t10 X
          have D10 := D9.aft X
          ((with_reducible refine' e_int ?D ?_); (case D => assumption); intro _ _ _)
          refine o_modN (a := (pyFig cell (2 * i)).toNat) (b := 2) (by have := pyFig_nn cell (2 * i); first | with_reducible exact s63 ‹_› | lia | omega) (by rfl) (by decide) (by assumption) ?_
          intro s11 t11 D11
          ((with_reducible refine' e_int ?D ?_); (case D => assumption); intro _ _ _)
          (with_reducible refine o_eq ?_)
          (with_reducible refine wpAny_truthy_bool ?_)
          by_cases h2 : (pyFig cell (2 * i)).toNat % 2 = 0
          · rw [if_pos (by rw [h2]; rfl)]
            exact k9 _ _ ⟨(decide_eq_true (.inr h2)).symm, by assumption⟩
          · rw [if_neg (by simp; first | with_reducible exact t57 ‹_› | lia | omega)]
            exact wpAny_allTrue_Or_nil (k9 _ _ ⟨(decide_eq_false (by first | decide | assumption | exact a1 ‹_› | exact a2 ‹_› | exact a3 ‹_› (by decide) | exact dl ‹_› | exact ee ‹_› ‹_› | lia | omega)).symm, by assumption⟩)
      · intro hb s9 D9
        have hc := of_decide_eq_true hb
        refine x_exprK ?_
        intro K9 k9
        refine MethodCall_ ?_
        ((with_reducible refine' nmQ ?D ?v ?_ ?o ?L); (case L => exact rfl); (case o => exact Eq.refl true); (case D => assumption); (case v => exact rfl))
        refine m_list (D9.at 2 rfl) PySem.F.slot_list_append PySem.F.type_list_append ?_
        refine callWith_method1 ?_
        ((with_reducible refine sp_cons ?_ ?he); (case he => exact rfl))
        (with_reducible refine Subscript_ ?_)
        refine Tuple_ ?_
        ((with_reducible refine sp_cons ?_ ?he); (case he => exact rfl))
        ((with_reducible refine' e_int ?D ?_); (case D => assumption); intro _ _ _)
        ((with_reducible refine sp_cons ?_ ?he); (case he => exact rfl))
        ((with_reducible refine' e_int ?D ?_); (case D => assumption); intro _ _ _)
        ((with_reducible refine sp_cons ?_ ?he); (case he => exact rfl))
        ((with_reducible refine' e_int ?D ?_); (case D => assumption); intro _ _ _)
        ((with_reducible refine sp_cons ?_ ?he); (case he => exact rfl))
        ((with_reducible refine' e_int ?D ?_); (case D => assumption); intro _ _ _)
        (with_reducible refine sp_nil ?_)
        refine n_tup (by assumption) (by simp) ?_
        intro tp s10 D10
        (with_reducible refine wpAny_BinOp ?_)
        ((with_reducible refine' nmQ ?D ?v ?_ ?o ?L); (case L => exact rfl); (case o => exact Eq.refl true); (case D => assumption); (case v => exact rfl))
        ((with_reducible refine' e_int ?D ?_); (case D => assumption); intro _ _ _)
        refine o_modN (a := wh) (b := 4) (by rfl) (by rfl) (by decide) (by assumption) ?_
        intro s11 t11 D11
        obtain ⟨tc', hc'⟩ := Nats.get (xs := _) (ps := [65, 97, 255, 1]) (i := wh % 4) (p := [65, 97, 255, 1].getD (wh % 4) 0) (.cons 65 _ (.cons 97 _ (.cons 255 _ (.cons 1 _ .nil)))) (by
          have : wh % 4 < 4 := Nat.mod_lt _ (by decide)
          generalize wh % 4 = z at *
          match z, this with
          | 0, _ => rfl
          | 1, _ => rfl
          | 2, _ => rfl
          | 3, _ => rfl)
        refine sub_any ?_
        refine u_item (D11.at 0 rfl) hc' (by first | decide | assumption | exact a1 ‹_› | exact a2 ‹_› | exact a3 ‹_› (by decide) | exact dl ‹_› | exact ee ‹_› ‹_› | lia | omega) ?_
        (with_reducible refine sp_nil ?_)
        refine a_append D11 3 rfl (by rw [hus.len]; first | lia | omega) ?_
        intro s12 m12 D12
        refine k9 _ _ ?_
        refine ⟨fun a q => (by cases q), ?_⟩
        refine x_exprK ?_
        intro K9 k9
        refine MethodCall_ ?_
        ((with_reducible refine' nmQ ?D ?v ?_ ?o ?L); (case L => exact rfl); (case o => exact Eq.refl true); (case D => assumption); (case v => exact rfl))
        refine m_list (D12.at 2 rfl) PySem.F.slot_list_extend PySem.F.type_list_extend ?_
        refine callWith_method1 ?_
        ((with_reducible refine sp_cons ?_ ?he); (case he => exact rfl))
        (with_reducible refine wpAny_BinOp ?_)
        (with_reducible refine Subscript_ ?_)
        ((with_reducible refine' nmQ ?D ?v ?_ ?o ?L); (case L => exact rfl); (case o => exact Eq.refl true); (case D => assumption); (case v => exact rfl))
        refine wpAny_Slice ?_
        refine evalPart_some_step ?_
        (with_reducible refine PyProof.Rows.UnaryOp_ ?_)
        ((with_reducible refine' e_int ?D ?_); (case D => assumption); intro _ _ _)
        ((with_reducible refine' o_neg ?D ?_); (case D => assumption); intro _ _ _)
        refine evalPart_none_step ?_
        refine evalPart_none_step ?_
        refine l_slice (ys := [Value.int ([65, 97, 255, 1].getD (wh % 4) 0 : Nat) tc']) (by assumption) (lst_is (Act.at (by assumption) 3 rfl)) (by rw [List.length_append, hus.len]; simp; first | lia | omega) (.int _ _) .none .none (by simp) ?_ ?_
        · refine (pick_tail _ 1 (by decide)).trans ?_
          simp
        intro b1 s13 D13
        (with_reducible refine Subscript_ ?_)
        ((with_reducible refine' nmQ ?D ?v ?_ ?o ?L); (case L => exact rfl); (case o => exact Eq.refl true); (case D => assumption); (case v => exact rfl))
        ((with_reducible refine' nmQ ?D ?v ?_ ?o ?L); (case L => exact rfl); (case o => exact Eq.refl true); (case D => assumption); (case v => exact rfl))
        obtain ⟨ts, hts⟩ := Nats.get hp (i := i) (p := sizes.getD i 0) (by rw [List.getElem?_eq_getElem (by first | with_reducible exact Nat.lt_of_lt_of_le ‹_› ‹_› | lia | omega)]; simp [List.getD, show i < sizes.length by first | with_reducible exact Nat.lt_of_lt_of_le ‹_› ‹_› | lia | omega])
        refine l_item (Heap.IsList.ext ha O.tab (Act.ext D13)) hts (by rw [hp.len]; first | assumption | lia | omega) ?_
        have hsz := h3 (sizes.getD i 0) (by rw [List.getD_eq_getElem?_getD, List.getElem?_eq_getElem (by first | with_reducible exact Nat.lt_of_lt_of_le ‹_› ‹_› | lia | omega)]; exact List.getElem_mem _)
        refine l_mul (by assumption) (Act.at (by assumption) 0 rfl) (by simp) (by first | with_reducible exact a3 ‹_ ∧ _›.2 (by decide) | lia | omega) ?_
        intro b2 s14 D14
        (with_reducible refine sp_nil ?_)
        refine a_extend D14 4 rfl (D14.at 0 rfl) (by rw [hvs.len]; first | lia | omega) (by rw [List.length_flatten, List.map_replicate, List.sum_replicate_nat]; show _ * 1 ≤ 1000; first | lia | omega) ?_
        intro s15 m15 D15
        refine k9 _ _ ?_
        refine ⟨fun a q => (by cases q), ?_⟩
        refine x_nil (x_nil ?_)
        refine z1 _ ?_
        refine ⟨5 - (i + 1), by first | decide | assumption | exact a1 ‹_› | exact a2 ‹_› | exact a3 ‹_› (by decide) | exact dl ‹_› | exact ee ‹_› ‹_› | lia | omega, i + 1, o', oc, _, _, _, _, l', rfl, by first | decide | assumption | exact a1 ‹_› | exact a2 ‹_› | exact a3 ‹_› (by decide) | exact dl ‹_› | exact ee ‹_› ‹_› | lia | omega, ho', hoc, Act.pre (r := [(Str.ofString "k", .int (i : Int) tv), (Str.ofString "which", .int (wh : Int) t7)]) ((D15.erase 0).erase 0 |>.erase 0), ?_, ?_⟩
        · show Nats _ (drawnStep cell sizes (drawnTo cell sizes i) i).1
          unfold drawnStep
          rw [if_pos hc, hwh, Int.toNat_natCast]
          exact hus.app (Nats.one _ _)
        · show Nats _ (drawnStep cell sizes (drawnTo cell sizes i) i).2
          unfold drawnStep
          rw [if_pos hc, hwh, Int.toNat_natCast, ← rep_one ([65, 97, 255, 1].getD (wh % 4) 0) (sizes.getD i 0)]
          exact hvs.app (Nats.rep (Nats.one _ _) _)
      · intro hb s9 D9
        have hc := of_decide_eq_false hb
        have hi0 : 0 < i := by first | decide | assumption | exact a1 ‹_› | exact a2 ‹_› | exact a3 ‹_› (by decide) | exact dl ‹_› | exact ee ‹_› ‹_› | lia | omega
        have hv0 : 0 < (drawnTo cell sizes i).2.length := by first | with_reducible exact t73 ‹_› ‹_› | lia | omega
        refine x_assignK ?_
        intro K9 k9
        (with_reducible refine Subscript_ ?_)
        ((with_reducible refine' nmQ ?D ?v ?_ ?o ?L); (case L => exact rfl); (case o => exact Eq.refl true); (case D => assumption); (case v => exact rfl))
        refine wpAny_Slice ?_
        refine evalPart_some_step ?_
        (with_reducible refine wpAny_BinOp ?_)
        ((with_reducible refine' nmQ ?D ?v ?_ ?o ?L); (case L => exact rfl); (case o => exact Eq.refl true); (case D => assumption); (case v => exact rfl))
        (((with_reducible refine' fn_B boot_len' ?G ?D b_len ?_ ?hs ?hc); (case hc => exact .inl ⟨_, rfl⟩)); (case hs => (repeat' apply And.intro) <;> exact rfl); (case G => assumption); (case D => assumption))
        ((with_reducible refine sp_cons ?_ ?he); (case he => exact rfl))
        ((with_reducible refine' nmQ ?D ?v ?_ ?o ?L); (case L => exact rfl); (case o => exact Eq.refl true); (case D => assumption); (case v => exact rfl))
        (with_reducible refine sp_nil ?_)
        refine l_len (by assumption) (lst_is (Act.at (by assumption) 1 rfl)) (by rw [hvs.len]; first | lia | omega) ?_
        intro s10 t10 D10
        refine o_modN (a := wh) (b := (drawnTo cell sizes i).2.length) (by rfl) (by rw [hvs.len]) hv0 (by assumption) ?_
        intro s11 t11 D11
        refine evalPart_none_step ?_
        refine evalPart_none_step ?_
        have hlt2 : wh % (drawnTo cell sizes i).2.length < (drawnTo cell sizes i).2.length := Nat.mod_lt _ hv0
        obtain ⟨p, hp0⟩ : ∃ p, p = wh % (drawnTo cell sizes i).2.length := ⟨_, rfl⟩
        rw [← hp0] at hlt2 ⊢
        refine l_slice (ys := vs.drop p) (by assumption) (lst_is (Act.at (by assumption) 1 rfl)) (by rw [hvs.len]; first | lia | omega) (.int _ _) .none .none (by simp) (pick_from _ _) ?_
        intro b1 s12 D12
        refine k9 _ _ ?_
        refine stC D12 4 rfl hoc ?_
        intro s13 oc' hoc' D13
        refine x_exprK ?_
        intro K9 k9
        refine MethodCall_ ?_
        ((with_reducible refine' nmQ ?D ?v ?_ ?o ?L); (case L => exact rfl); (case o => exact Eq.refl true); (case D => assumption); (case v => exact rfl))
        refine m_list (D13.at 3 rfl) PySem.F.slot_list_append PySem.F.type_list_append ?_
        refine callWith_method1 ?_
        ((with_reducible refine sp_cons ?_ ?he); (case he => exact rfl))
        (with_reducible refine wpAny_BinOp ?_)
        ((with_reducible refine' e_int ?D ?_); (case D => assumption); intro _ _ _)
        (with_reducible refine wpAny_BinOp ?_)
        ((with_reducible refine' nmQ ?D ?v ?_ ?o ?L); (case L => exact rfl); (case o => exact Eq.refl true); (case D => assumption); (case v => exact rfl))
        (((with_reducible refine' fn_B boot_len' ?G ?D b_len ?_ ?hs ?hc); (case hc => exact .inl ⟨_, rfl⟩)); (case hs => (repeat' apply And.intro) <;> exact rfl); (case G => assumption); (case D => assumption))
        ((with_reducible refine sp_cons ?_ ?he); (case he => exact rfl))
        ((with_reducible refine' nmQ ?D ?v ?_ ?o ?L); (case L => exact rfl); (case o => exact Eq.refl true); (case D => assumption); (case v => exact rfl))
        (with_reducible refine sp_nil ?_)
        refine l_len (by assumption) (lst_is (Act.at (by assumption) 2 rfl)) (by rw [hvs.len]; first | lia | omega) ?_
        intro s14 t14 D14
        refine o_modN (a := wh) (b := (drawnTo cell sizes i).2.length) (by rfl) (by rw [hvs.len]) hv0 (by assumption) ?_
        intro s15 t15 D15
        rw [← hp0]
        refine o_addK (k := ((256 + p : Nat) : Int)) (by first | rfl | lia | omega) (by assumption) ?_
        intro s16 t16 D16
        (with_reducible refine sp_nil ?_)
        refine a_append D16 3 rfl (by rw [hus.len]; first | lia | omega) ?_
        intro s17 m17 D17
        refine k9 _ _ ?_
        refine ⟨fun a q => (by cases q), ?_⟩
        refine x_exprK ?_
        intro K9 k9
        refine MethodCall_ ?_
        ((with_reducible refine' nmQ ?D ?v ?_ ?o ?L); (case L => exact rfl); (case o => exact Eq.refl true); (case D => assumption); (case v => exact rfl))
        refine m_list (D17.at 2 rfl) PySem.F.slot_list_extend PySem.F.type_list_extend ?_
        refine callWith_method1 ?_
        ((with_reducible refine sp_cons ?_ ?he); (case he => exact rfl))
        refine x_comp ?_
        (((with_reducible refine' fn_B boot_range ?G ?D b_range ?_ ?hs ?hc); (case hc => exact .inr ⟨_, rfl⟩)); (case hs => (repeat' apply And.intro) <;> exact rfl); (case G => assumption); (case D => assumption))
        ((with_reducible refine sp_cons ?_ ?he); (case he => exact rfl))
        (with_reducible refine Subscript_ ?_)
        ((with_reducible refine' nmQ ?D ?v ?_ ?o ?L); (case L => exact rfl); (case o => exact Eq.refl true); (case D => assumption); (case v => exact rfl))
        ((with_reducible refine' nmQ ?D ?v ?_ ?o ?L); (case L => exact rfl); (case o => exact Eq.refl true); (case D => assumption); (case v => exact rfl))
        obtain ⟨ts, hts⟩ := Nats.get hp (i := i) (p := sizes.getD i 0) (by rw [List.getElem?_eq_getElem (by first | with_reducible exact Nat.lt_of_lt_of_le ‹_› ‹_› | lia | omega)]; simp [List.getD, show i < sizes.length by first | with_reducible exact Nat.lt_of_lt_of_le ‹_› ‹_› | lia | omega])
        refine l_item (Heap.IsList.ext ha O.tab (Act.ext D17)) hts (by rw [hp.len]; first | assumption | lia | omega) ?_
        (with_reducible refine sp_nil ?_)
        refine r_1 (by assumption) ?_
        intro r18 s18 t18 u18 v18 D18 hr18
        have hsz := h3 (sizes.getD i 0) (by rw [List.getD_eq_getElem?_getD, List.getElem?_eq_getElem (by first | with_reducible exact Nat.lt_of_lt_of_le ‹_› ‹_› | lia | omega)]; exact List.getElem_mem _)
        obtain ⟨z, hz0⟩ : ∃ z, z = sizes.getD i 0 := ⟨_, rfl⟩
        rw [← hz0] at hr18 hsz
        obtain ⟨V, hV⟩ : ∃ V, V = (drawnTo cell sizes i).2 := ⟨_, rfl⟩
        rw [← hV] at hvs hv0 hlt2 hp0 n2 n3
        have hvl := hvs.len
        have hdrop : Nats (vs.drop p) (V.drop p) := hvs.drop p
        refine comp_r1E D18 r.hh hr18 (by first | with_reducible exact a3 ‹_ ∧ _›.2 (by decide) | lia | omega) (fun j ys => j ≤ z ∧ Nats ys ((List.range j).map fun turn => (V.drop p).getD (turn % (V.length - p)) 0)) ⟨by first | exact Nat.le_add_left .. | lia | omega, .nil⟩ (fun j ys h => by rw [h.2.len, List.length_map, List.length_range]; first | lia | omega) ?_ ?_
        · intro j tj oj ys m s19 hj hF D19 K7 k7
          have hcl := D18.thru D19 4 rfl
          have hst := D18.thru D19 0 rfl
          (with_reducible refine Subscript_ ?_)
          refine nmC (c := s.heap.objs.size + 1) ⟨oc', hcl, hoc'⟩ rfl ?_
          (with_reducible refine wpAny_BinOp ?_)
          ((with_reducible refine' nmQ ?D ?v ?_ ?o ?L); (case L => exact rfl); (case o => exact Eq.refl true); (case D => assumption); (case v => exact rfl))
          (((with_reducible refine' fn_B boot_len' ?G ?D b_len ?_ ?hs ?hc); (case hc => exact .inl ⟨_, rfl⟩)); (case hs => (repeat' apply And.intro) <;> exact rfl); (case G => assumption); (case D => assumption))
          ((with_reducible refine sp_cons ?_ ?he); (case he => exact rfl))
          refine nmC (c := s.heap.objs.size + 1) ⟨oc', hcl, hoc'⟩ rfl ?_
          (with_reducible refine sp_nil ?_)
          refine l_len D19 (lst_is hst) (by rw [List.length_drop]; first | with_reducible exact t33 ‹_› ‹_› ‹_› | lia | omega) ?_
          intro s20 t20 D20
          refine o_modN (a := j) (b := V.length - p) (by rfl) (by rw [List.length_drop, hvl]) (by first | with_reducible exact Nat.sub_pos_of_lt ‹_› | lia | omega) (by assumption) ?_
          intro s21 t21 D21
          have hm : j % (V.length - p) < V.length - p := Nat.mod_lt _ (by first | with_reducible exact Nat.sub_pos_of_lt ‹_› | lia | omega)
          obtain ⟨tq, hq⟩ := Nats.get hdrop (i := j % (V.length - p)) (p := (V.drop p).getD (j % (V.length - p)) 0) (by rw [List.getElem?_eq_getElem (by rw [List.length_drop]; first | assumption | lia | omega), List.getD_eq_getElem?_getD, List.getElem?_eq_getElem (by rw [List.length_drop]; first | assumption | lia | omega)]; rfl)
          refine l_item (lst_is (D18.thru D21 0 rfl)) hq (by rw [List.length_drop]; first | with_reducible exact t33 ‹_› ‹_› ‹_› | lia | omega) ?_
          refine k7 _ _ D21 ⟨by first | decide | assumption | exact a1 ‹_› | exact a2 ‹_› | exact a3 ‹_› (by decide) | exact dl ‹_› | exact ee ‹_› ‹_› | lia | omega, ?_⟩
          rw [List.range_succ, List.map_append]
          exact hF.2.app (Nats.one _ _)
        · intro ys m s19 hF D19
          refine comp_none D18 D19 ?_
          intro s20 D20
          (with_reducible refine sp_nil ?_)
          refine a_extend D20 3 rfl (D20.at 0 rfl) (by first | decide | assumption | exact a1 ‹_› | exact a2 ‹_› | exact a3 ‹_› (by decide) | exact dl ‹_› | exact ee ‹_› ‹_› | lia | omega) (by rw [hF.2.len, List.length_map, List.length_range]; first | with_reducible exact a3 ‹_ ∧ _›.2 (by decide) | lia | omega) ?_
          intro s21 m21 D21
          refine k9 _ _ ?_
          refine ⟨fun a q => (by cases q), ?_⟩
          refine x_nil (x_nil ?_)
          refine z1 _ ?_
          refine ⟨5 - (i + 1), by first | decide | assumption | exact a1 ‹_› | exact a2 ‹_› | exact a3 ‹_› (by decide) | exact dl ‹_› | exact ee ‹_› ‹_› | lia | omega, i + 1, o', oc', _, _, _, _, _, rfl, by first | decide | assumption | exact a1 ‹_› | exact a2 ‹_› | exact a3 ‹_› (by decide) | exact dl ‹_› | exact ee ‹_› ‹_› | lia | omega, ho', hoc', Act.pre (r := [(Str.ofString "k", .int (i : Int) tv), (Str.ofString "which", .int (wh : Int) t7)]) ((D21.erase 0).erase 0), ?_, ?_⟩
          · show Nats _ (drawnStep cell sizes (drawnTo cell sizes i) i).1
            unfold drawnStep
            rw [if_neg hc, hwh, Int.toNat_natCast, ← hV, ← hp0]
            exact hus.app (Nats.one _ _)
          · show Nats _ (drawnStep cell sizes (drawnTo cell sizes i) i).2
            unfold drawnStep
            rw [if_neg hc, hwh, Int.toNat_natCast, ← hV, ← hp0, ← hz0]
            exact hvs.app hF.2
    · have hi5 : i = 5 := by first | decide | assumption | exact a1 ‹_› | exact a2 ‹_› | exact a3 ‹_› (by decide) | exact dl ‹_› | exact ee ‹_› ‹_› | lia | omega
      subst hi5
      refine (It.range r.hh 0 1 5).end D 0 rfl ho trivial ?_
      intro s4 D4
      refine x_ret ?_
      refine Tuple_ ?_
      ((with_reducible refine sp_cons ?_ ?he); (case he => exact rfl))
      ((with_reducible refine' nmQ ?D ?v ?_ ?o ?L); (case L => exact rfl); (case o => exact Eq.refl true); (case D => assumption); (case v => exact rfl))
      ((with_reducible refine sp_cons ?_ ?he); (case he => exact rfl))
      ((with_reducible refine' nmQ ?D ?v ?_ ?o ?L); (case L => exact rfl); (case o => exact Eq.refl true); (case D => assumption); (case v => exact rfl))
      (with_reducible refine sp_nil ?_)
      refine n_tup (by assumption) (by simp) ?_
      intro tp s5 D5
      refine k s5 tp x y _ us vs lus lvs (D5.got.sub ?_) rfl hus hvs
      exact List.Sublist.cons_cons _ (List.Sublist.cons_cons _ (List.Sublist.cons_cons _ (List.nil_sublist _)))
end
section
variable {w : World} {A : Around} {R : GenEnd} {Y : Protocol} {n : Nat} {s₀ : Shared} {c : Code} {fs : List Frame} {s : Shared} {env : Env}
  {K : Flow → Sem Fin} {H : Value → Sem Fin} {gd : Bool → Bool} {lv : List Value → List Value}
noncomputable abbrev loopErr (env : Env) : Value → Sem Fin := fun e => (do noteFrame e env; theTreesLotGoes e : Sem Unit).wrap (fun _ => .raise e) .raise id id
theorem g_stmt {st : Stmt} {rest : List Stmt} (h : wpAny (model PR w) (A.over c fs) (exec st env) (fun f s' => match f with
      | .next => Seg (model PR w) A R Y n s₀ c ((execs rest env).wrap K H gd lv) fs s'
      | f => Seg (model PR w) A R Y n s₀ c (K f) fs s') no s) :
    Seg (model PR w) A R Y n s₀ c ((execs (st :: rest) env).wrap K H gd lv) fs s :=
  seg_execs_cons (seg_wrap (wpAny_mono h (fun f s' h' => by cases f <;> exact h') fun _ _ x => x.elim))
theorem g_if {test : Expr} {body orelse rest : List Stmt} {pos : Pos} {K' : Flow → Sem Fin} (hK : K' = fun f => match f with | .next => (execs rest env).wrap K H gd lv | f => K f)
    (h : wpAny (model PR w) (A.over c fs) (isTrue test env (eval test env)) (fun b s' => (b = true → Seg (model PR w) A R Y n s₀ c ((execs body env).wrap K' H gd lv) fs s') ∧ (b = false → Seg (model PR w) A R Y n s₀ c ((execs orelse env).wrap K' H gd lv) fs s')) no s) :
    Seg (model PR w) A R Y n s₀ c ((execs (.If test body orelse pos :: rest) env).wrap K H gd lv) fs s := by
  refine seg_execs_cons ?_
  rw [exec_If]
  refine seg_at (p' := pos) (k := fun _ => (do if ← isTrue test env (eval test env) then execs body env else execs orelse env : Sem Flow).wrap _ H gd lv) ?_
  rw [Sem.bind_eq_wrap', Sem.wrap_wrap]
  refine seg_wrap (wpAny_mono h (fun b s' h' => ?_) fun _ _ x => x.elim)
  subst hK
  cases b with
  | true => exact h'.1 rfl
  | false => exact h'.2 rfl
theorem g_for {x : Str} {px : Pos} {iter : Expr} {body rest : List Stmt} {pos : Pos}
    (h : wpAny (model PR w) (A.over c fs) (eval iter env) (fun v s₁ => wpAny (model PR w) (A.over c fs) (pyIter v) (fun it s₂ =>
      ∀ (kk : Result → Sem Fin) p, (∀ f, kk (.ok f) = (match f with | .next => (execs rest env).wrap K H gd lv | f => K f)) →
        Seg (model PR w) A R Y n s₀ (.forLoop (.Name x px) it body [] env) ((model PR w).den (.forLoop (.Name x px) it body [] env)) (.ret kk none (gd false) (lv []) c p [] :: fs) s₂) no s₁) no s)
    (hs : ∀ x, foldedSetIterable iter env x = pure x := by intro _; rfl) :
    Seg (model PR w) A R Y n s₀ c ((execs (.For (.Name x px) iter body [] pos :: rest) env).wrap K H gd lv) fs s := by
  refine seg_execs_cons ?_
  rw [exec_For]
  refine seg_at (p' := pos) (k := fun _ => (do
    let x ← foldedSetIterable iter env (← eval iter env)
    standAt iter.pos
    runOwn (.forLoop (.Name _ px) (← holding [x] (pyIter x)) body [] env) env : Sem Flow).wrap _ H gd lv) ?_
  rw [Sem.bind_eq_wrap', Sem.wrap_wrap]
  refine seg_wrap (wpAny_mono h (fun v s₁ h₁ => ?_) fun _ _ x => x.elim)
  rw [hs v]
  refine seg_at (p' := iter.pos) (k := fun _ => (do
    runOwn (.forLoop (.Name _ px) (← holding [v] (pyIter v)) body [] env) env : Sem Flow).wrap _ H _ _) ?_
  rw [Sem.bind_eq_wrap', Sem.wrap_wrap]
  refine seg_wrap (wpAny_holding (wpAny_mono h₁ (fun it s₂ h₂ => ?_) fun _ _ x => x.elim))
  refine seg_call fun p => h₂ _ p fun f => ?_
  rfl
theorem g_forLoop {x : Str} {px : Pos} {it : Value} {body : List Stmt}
    (h : wpAny (model PR w) (A.over (.forLoop (.Name x px) it body [] env) fs) (pyNext it) (fun r s₁ => match r with
      | none => Seg (model PR w) A R Y n s₀ (.block [] env) (.pure (.done .next)) fs s₁
      | some v => wpAny (model PR w) (A.over (.forLoop (.Name x px) it body [] env) fs) (storeName env x v) (fun _ s₂ => Seg (model PR w) A R Y n s₀ (.forLoop (.Name x px) it body [] env) ((execs body env).wrap (fun f => match f with
            | .next | .cont => .pure (.again (.forLoop (.Name x px) it body [] env))
            | .brk => .pure (.done .next)
            | .ret v => .pure (.done (.ret v))) (loopErr env) id id) fs s₂) no s₁) no s) :
    Seg (model PR w) A R Y n s₀ (.forLoop (.Name x px) it body [] env) ((model PR w).den (.forLoop (.Name x px) it body [] env)) fs s := by
  show Seg _ A R Y n s₀ _ ((forTurn (.Name x px) it body [] env).onRaise (fun x => do noteFrame x env; theTreesLotGoes x)) fs s
  unfold forTurn
  rw [Sem.onRaise_eq_wrap, Sem.bind_eq_wrap', Sem.wrap_wrap]
  refine seg_wrap (wpAny_standAt ?_)
  dsimp only
  rw [Sem.bind_eq_wrap', Sem.wrap_wrap]
  refine seg_wrap (wpAny_onRaise (wpAny_mono h (fun r s₁ h₁ => ?_) fun _ _ x => x.elim))
  cases r with
  | none =>
    refine seg_again (by rfl) ?_
    show Seg _ A R Y n s₀ _ (.pure (.done .next)) fs s₁
    exact h₁
  | some v =>
    dsimp only
    rw [show letOwnedTupleGo (.Name x px) it v = pure () from rfl]
    show Seg _ A R Y n s₀ _ (Sem.wrap _ _ _ _ (assign (.Name x px) env v >>= _)) fs s₁
    rw [Sem.bind_eq_wrap', Sem.wrap_wrap]
    refine seg_wrap (wpAny_assign_Name (wpAny_mono h₁ (fun _ s₂ h₂ => ?_) fun _ _ x => x.elim))
    rw [Sem.bind_eq_wrap', Sem.wrap_wrap]
    rw [Sem.wrap_congr (execs body env) _ _ (K' := fun f => match f with
            | .next | .cont => .pure (.again (.forLoop (.Name x px) it body [] env))
            | .brk => .pure (.done .next)
            | .ret v => .pure (.done (.ret v))) (H' := loopErr env)
        (fun f => by cases f <;> rfl)
        (fun e => by first | exact Sem.bind_eq_wrap _ _ | (show (do noteFrame e env; theTreesLotGoes e : Sem Unit).bind (fun _ => .raise e) = _; rw [Sem.bind_eq_wrap]))]
    exact h₂
end
noncomputable def gval : List Nat → Option Nat → Nat → Option Nat
  | [], _, _ => none
  | x :: r, last, k => if x = 127 then none else if x = 0 then last else match k with
    | 0 => some x
    | k + 1 => gval r (some x) k
structure Chg (L I : Addr) (s s' : Shared) : Prop where
  like : Like s s'
  tab : TabOk s'.heap
  keep : ∀ b o, b ≠ 102 → b ≠ L → b ≠ I → s.heap.get? b = some o → s'.heap.get? b = some o
structure GRes (B : Heap) (a : Addr) (xs : List Value) (h : Heap) : Prop where
  base : ∀ b o, B.get? b = some o → h.get? b = some o
  tab : TabOk h
  lis : h.IsList a xs.toArray
noncomputable def GY (B : Heap) (a : Addr) (xs : List Value) (ruler : List Nat) (L I : Addr) : Protocol := fun n s₀ v s₁ κ =>
  ∃ (x : Nat) (t : Tok) (oL oI : Obj), gval ruler none (39 - n) = some x ∧ v = .int (x : Int) t ∧ Chg L I s₀ s₁ ∧ s₁.heap.get? L = some oL ∧ s₁.heap.get? I = some oI ∧ ¬ Hard oL ∧ ¬ Hard oI ∧
    (0 < n → ∀ s'', GRes B a xs s''.heap → s''.heap.get? L = some oL → s''.heap.get? I = some oI → κ (.send .none) s'')
noncomputable def GP (ruler : List Nat) (L I : Addr) (n : Nat) (s₀ s₁ : Shared) : Prop := gval ruler none (40 - n) = none ∧ Chg L I s₀ s₁
noncomputable abbrev GR (ruler : List Nat) (L I : Addr) : GenEnd := fun n s₀ r s₁ => r = .ok (.ret .none) ∧ GP ruler L I n s₀ s₁

noncomputable def trunc (h : Heap) (L : Nat) : Heap := { h with objs := h.objs.extract 0 L }
theorem trunc_get (h : Heap) (L b : Nat) : (trunc h L).get? b = if b < L then h.get? b else none := by
  unfold trunc Heap.get?
  simp only [Array.getElem?_extract, Nat.sub_zero, Nat.zero_add]
  by_cases hb : b < min L h.objs.size
  · rw [if_pos hb, if_pos (by first | with_reducible exact t62 ‹_› | lia | omega)]
  · rw [if_neg hb]
    by_cases hL : b < L
    · rw [if_pos hL]
      have : h.objs[b]? = none := Array.getElem?_eq_none (by first | with_reducible exact t63 ‹_› ‹_› | lia | omega)
      rw [this]
    · rw [if_neg hL]
theorem trunc_size {h : Heap} {L : Nat} (hL : L ≤ h.objs.size) : (trunc h L).objs.size = L := by
  unfold trunc; simp; first | with_reducible exact Nat.min_eq_left ‹_› | lia | omega
noncomputable def allN (h : Heap) (L : Nat) : List (Addr × Obj) := (List.range h.objs.size).reverse.filterMap fun b => if L < b then (h.get? b).map (b, ·) else none
theorem mem_allN {h : Heap} {L : Nat} {p : Addr × Obj} : p ∈ allN h L ↔ L < p.1 ∧ h.get? p.1 = some p.2 := by
  unfold allN
  rw [List.mem_filterMap]
  constructor
  · rintro ⟨b, _, h1⟩
    split at h1
    · rename_i hb
      rw [Option.map_eq_some_iff] at h1
      obtain ⟨o, e, rfl⟩ := h1
      exact ⟨hb, e⟩
    · cases h1
  · rintro ⟨h1, h2⟩
    exact ⟨p.1, by simp [Heap.lt_size h2], by rw [if_pos h1, h2]; rfl⟩
theorem ord_fm (f : Nat → Option (Addr × Obj)) (hf : ∀ b p, f b = some p → p.1 = b) : ∀ l : List Nat, l.Pairwise (· > ·) → ((l.filterMap f).map (·.1)).Pairwise (· > ·)
  | [], _ => by simp
  | b :: l, h => by
    have ih := ord_fm f hf l (List.pairwise_cons.mp h).2
    rw [List.filterMap_cons]
    split
    · exact ih
    · rename_i p e
      rw [List.map_cons]
      refine List.Pairwise.cons (fun c hc => ?_) ih
      obtain ⟨q, hq, rfl⟩ := List.mem_map.mp hc
      obtain ⟨b', hb', e'⟩ := List.mem_filterMap.mp hq
      rw [hf _ _ e, hf _ _ e']
      exact (List.pairwise_cons.mp h).1 b' hb'
theorem ord_allN (h : Heap) (L : Nat) : ((allN h L).map (·.1)).Pairwise (· > ·) := by
  unfold allN
  refine ord_fm _ (fun b p e => ?_) _ ?_
  · split at e
    · rw [Option.map_eq_some_iff] at e
      obtain ⟨o, _, rfl⟩ := e; rfl
    · cases e
  · rw [List.pairwise_reverse]; exact List.pairwise_lt_range
section
variable {w : World} {mg mb : Str → Option Value} {B : Heap} {A : Around} {s₀ s s' : Shared} {L I a : Addr} {l : List (Str × Value)} {N : List (Addr × Obj)} {xs : List Value} {ruler : List Nat}
theorem genAct (g : GRes B a xs s.heap) (no : B.get? 102 = none) (low : B.objs.size ≤ L) (L2 : 102 < L) {m : Str → Option Value} (hn : s.heap.Ns L m) (hm : ∀ x v, l.lookup x = some v → m x = some v) :
    Act B { s with heap := trunc s.heap L } L l (allN s.heap L) T0 s := by
  have hz := trunc_size (Nat.le_of_lt hn.lt)
  refine ⟨⟨⟨m, hn, hm⟩, fun b o _ _ e => ?_, Nat.le_of_eq hz, fun p hp => (mem_allN.mp hp).2, fun p hp => ?_, ord_allN _ _, g.base, no, by show B.objs.size ≤ (trunc s.heap L).objs.size; rw [hz]; exact low, by show 102 < (trunc s.heap L).objs.size; rw [hz]; exact L2, g.tab, Kept.t0, trivial⟩, rfl, id, fun _ _ e => e⟩
  · have e : (trunc s.heap L).get? b = some o := e
    rw [trunc_get] at e
    split at e
    · exact e
    · cases e
  · have := (mem_allN.mp hp).1
    exact ⟨by show (trunc s.heap L).objs.size ≤ p.1; rw [hz]; exact Nat.le_of_lt this, Nat.ne_of_gt this⟩
theorem genChg (D : Act B { s₀ with heap := trunc s₀.heap L } L l N T0 s) (hN : ∀ p ∈ allN s₀.heap L, p.1 ≠ I → p ∈ N) : Chg L I s₀ s where
  like := ⟨D.like.os, D.like.gens, D.like.kg⟩
  tab := D.hp.tab
  keep := fun b o h1 h2 h3 e => by
    rcases Nat.lt_or_ge b L with h | h
    · exact D.hp.ext b o h1 List.not_mem_nil (by show (trunc s₀.heap L).get? b = some o; rw [trunc_get, if_pos h]; exact e)
    · exact D.hp.get (b, o) (hN (b, o) (mem_allN.mpr ⟨Nat.lt_of_le_of_ne h (Ne.symm h2), e⟩) h3)
theorem Chg.base (x : Chg L I s s') (hB : ∀ b o, B.get? b = some o → s.heap.get? b = some o) (no : B.get? 102 = none) (hL : B.objs.size ≤ L) (hI : B.objs.size ≤ I) : ∀ b o, B.get? b = some o → s'.heap.get? b = some o := fun b o e =>
  x.keep b o (fun q => by rw [q, no] at e; cases e) (Nat.ne_of_lt (Nat.lt_of_lt_of_le (Heap.lt_size e) hL)) (Nat.ne_of_lt (Nat.lt_of_lt_of_le (Heap.lt_size e) hI)) (hB b o e)

theorem x_ifE {Q : Flow → Shared → Prop} {env : Env} {test : Expr} {body orelse : List Stmt} {pos : Pos} (h : wpAny (model PR w) A (isTrue test env (eval test env)) (fun b s₁ => (b = true → wpAny (model PR w) A (execs body env) Q no s₁) ∧ (b = false → wpAny (model PR w) A (execs orelse env) Q no s₁)) no s) :
    wpAny (model PR w) A (exec (.If test body orelse pos) env) Q no s := by
  rw [exec_If]
  refine wpAny_bind (wpAny_standAt (wpAny_bind (wpAny_mono h (fun b s₁ h₁ => ?_) fun _ _ x => x)))
  cases b with
  | true => exact h₁.1 rfl
  | false => exact h₁.2 rfl

noncomputable def gParts : {q : (Pos × Nat × Pos × Pos) × (Pos × Expr × List Stmt × Pos) // F76.1.body = .stmts [.Assign [.Name (Str.ofString "last_interval") q.1.1] (.Constant .none q.1.2.1 q.1.2.2.1) q.1.2.2.2, .For (.Name (Str.ofString "interval") q.2.1) q.2.2.1 q.2.2.2.1 [] q.2.2.2.2]} := ⟨((_, _, _, _), (_, _, _, _)), rfl⟩
noncomputable abbrev gEnv (L : Addr) : Env := envX F76.1.qualname F76.1.scope L 76 F76.1.code []
noncomputable abbrev gFor (L I : Addr) : Code := .forLoop (.Name (Str.ofString "interval") gParts.1.2.1) (.ref I) gParts.1.2.2.2.1 [] (gEnv L)
structure IsFr (L : Addr) (fr : Frame) : Prop where
  ex : ∃ kk c p, fr = .ret kk none false [] c p [] ∧ c = .func [.Assign [.Name (Str.ofString "last_interval") gParts.1.1.1] (.Constant .none gParts.1.1.2.1 gParts.1.1.2.2.1) gParts.1.1.2.2.2, .For (.Name (Str.ofString "interval") gParts.1.2.1) gParts.1.2.2.1 gParts.1.2.2.2.1 [] gParts.1.2.2.2.2] (gEnv L) ∧
    kk (.ok .next) = .pure (.done (.ret .none)) ∧ kk (.ok (.ret .none)) = .pure (.done (.ret .none))
end
section
variable {w : World} {mg mb : Str → Option Value} {B : Heap} {A : Around} {L I a : Addr} {xs : List Value} {ruler : List Nat}
theorem over_hh {c c₁ : Code} {kk : Result → Sem Fin} {p : Pos} (hA : A.handled = none) : (A.over c [.ret kk none false [] c₁ p []]).handled = none := by
  show (marksOver [Frame.ret kk none false [] c₁ p []] (A.handled, A.handled)).1 = none
  rw [hA]; rfl
noncomputable def LastIs (last : Option Nat) (v : Value) : Prop := (last = none ∧ v = .none) ∨ ∃ x t, last = some x ∧ v = .int (x : Int) t
structure GHyp (w : World) (mg mb : Str → Option Value) (B : Heap) (L I a : Addr) (xs : List Value) (ruler : List Nat) : Prop where
  G : Gnd w mg mb B
  low : B.objs.size ≤ L
  L2 : 102 < L
  LI : L < I
  aL : a < L
  a102 : a ≠ 102
  hp : Nats xs ruler
  len : ruler.length ≤ 16
structure GTop (B : Heap) (L I a : Addr) (xs : List Value) (ruler : List Nat) (s₀ s : Shared) (i : Nat) (last : Option Nat) (l : List (Str × Value)) (N : List (Addr × Obj)) : Prop where
  D : Act B { s₀ with heap := trunc s₀.heap L } L l N T0 s
  lis : s₀.heap.IsList a xs.toArray
  it : ∃ o, (I, o) ∈ N ∧ LI a i o
  all : ∀ p ∈ allN s₀.heap L, p.1 ≠ I → p ∈ N
theorem trunc_list {h : Heap} (hl : h.IsList a xs.toArray) (ha : a < L) : (trunc h L).IsList a xs.toArray := by
  obtain ⟨o, e, r⟩ := hl
  exact ⟨o, by rw [trunc_get, if_pos ha]; exact e, r⟩
theorem set_mem {N : List (Addr × Obj)} {j : Nat} {o o' : Obj} (hj : N[j]? = some (I, o)) {p : Addr × Obj} (hp : p ∈ N) (hI : p.1 ≠ I) : p ∈ N.set j (I, o') := by
  rw [set_split hj]
  rw [pw_split hj] at hp
  rcases List.mem_append.mp hp with h | h
  · exact List.mem_append.mpr (.inl h)
  · rcases List.mem_cons.mp h with h | h
    · subst h; exact absurd rfl hI
    · exact List.mem_append.mpr (.inr (List.mem_cons_of_mem _ h))
theorem GTop.again (Hy : GHyp w mg mb B L I a xs ruler) {s₀ s s'' : Shared} {i : Nat} {last : Option Nat} {l : List (Str × Value)} {N : List (Addr × Obj)} {oL oI : Obj} (T : GTop B L I a xs ruler s₀ s i last l N)
    (g : GRes B a xs s''.heap) (e1 : s.heap.get? L = some oL) (e2 : s.heap.get? I = some oI) (h1 : s''.heap.get? L = some oL) (h2 : s''.heap.get? I = some oI) : GTop B L I a xs ruler s'' s'' i last l (allN s''.heap L) := by
  obtain ⟨o, ho, hi⟩ := T.it
  have := T.D.hp.get _ ho
  rw [e2] at this; cases this
  obtain ⟨m, ⟨oL', es, ep, e, hd, hk, hm⟩, hml⟩ := T.D.hp.ns
  rw [e1] at e; cases e
  exact ⟨genAct g Hy.G.no Hy.low Hy.L2 (m := m) ⟨oL, es, ep, h1, hd, hk, hm⟩ hml, g.lis, ⟨_, mem_allN.mpr ⟨Hy.LI, h2⟩, hi⟩, fun p hp _ => hp⟩
theorem GTop.objs {s₀ s : Shared} {i : Nat} {last : Option Nat} {l : List (Str × Value)} {N : List (Addr × Obj)} (T : GTop B L I a xs ruler s₀ s i last l N) :
    ∃ oL oI, s.heap.get? L = some oL ∧ s.heap.get? I = some oI ∧ ¬ Hard oL ∧ ¬ Hard oI := by
  obtain ⟨o, ho, hi⟩ := T.it
  obtain ⟨m, hn, _⟩ := T.D.hp.ns
  obtain ⟨oL, _, _, e, _⟩ := id hn
  exact ⟨oL, o, e, T.D.hp.get _ ho, ns_soft hn _ e, hard_int hi.2 rfl⟩
theorem g_while (Hy : GHyp w mg mb B L I a xs ruler) (hA : A.handled = none) {k1 : Nat} {p1 p2 p3 p4 : Pos} {fs : List Frame} (hfs : splitAtGen fs = none) (hfg : fs.any Frame.guarded = false) {y : Nat} {t : Tok} {i : Nat} {last : Option Nat} : ∀ (n : Nat) (s₀ s : Shared) (N : List (Addr × Obj)),
    GTop B L I a xs ruler s₀ s i last [(Str.ofString "last_interval", .int (y : Int) t)] N → (∀ k, 39 - n ≤ k → gval ruler none k = some y) →
    Seg (model PR w) A (GR ruler L I) (GY B a xs ruler L I) (n + 1) s₀ (.whileLoop (.Constant (.bool true) k1 p1) [.Expr (.Yield (some (.Name (Str.ofString "last_interval") p2)) p3) p4] [] (gEnv L))
      ((model PR w).den (.whileLoop (.Constant (.bool true) k1 p1) [.Expr (.Yield (some (.Name (Str.ofString "last_interval") p2)) p3) p4] [] (gEnv L))) fs s := by
  intro n
  induction n with
  | zero =>
    intro s₀ s N T hv
    have D := T.D
    refine seg_whileLoop (wpAny_mono (E := no) (wpAny_isTrue_value (e_bool (wpAny_truthy_bool ?_))) (fun _ _ x => x) fun _ _ x => x.elim)
    rw [if_pos rfl]
    refine seg_execs_cons ?_
    refine seg_Expr_Yield hfs rfl hfg (wpAny_mono (E := no) (nmL D rfl ?_) (fun _ _ x => x) fun _ _ x => x.elim)
    intro kap hkap
    obtain ⟨oL, oI, e1, e2, h1, h2⟩ := T.objs
    exact ⟨y, t, oL, oI, hv _ (Nat.le_refl _), rfl, genChg D T.all, e1, e2, h1, h2, fun h => absurd h (Nat.lt_irrefl _)⟩
  | succ n ih =>
    intro s₀ s N T hv
    have D := T.D
    refine seg_whileLoop (wpAny_mono (E := no) (wpAny_isTrue_value (e_bool (wpAny_truthy_bool ?_))) (fun _ _ x => x) fun _ _ x => x.elim)
    rw [if_pos rfl]
    refine seg_execs_cons ?_
    refine seg_Expr_Yield hfs rfl hfg (wpAny_mono (E := no) (nmL D rfl ?_) (fun _ _ x => x) fun _ _ x => x.elim)
    intro kap hkap
    obtain ⟨oL, oI, e1, e2, h1, h2⟩ := T.objs
    refine ⟨y, t, oL, oI, hv _ (Nat.le_refl _), rfl, genChg D T.all, e1, e2, h1, h2, fun _ s'' g f1 f2 => hkap .none s'' ?_⟩
    refine seg_again (by rfl) ?_
    exact ih s'' s'' _ (T.again Hy g e1 e2 f1 f2) fun k hk => hv k (by first | with_reducible exact s37 ‹_› | lia | omega)
theorem g_top (Hy : GHyp w mg mb B L I a xs ruler) (hA : A.handled = none) : ∀ (n i : Nat) (last : Option Nat) (lv : Value) (s₀ s : Shared) (N : List (Addr × Obj)) (fr : Frame), i + n = 40 → i ≤ ruler.length →
    GTop B L I a xs ruler s₀ s i last [(Str.ofString "last_interval", lv)] N → LastIs last lv → (∀ k, gval ruler none (i + k) = gval (ruler.drop i) last k) → (last = none → ruler[i]? ≠ some 0) → IsFr L fr →
    Seg (model PR w) A (GR ruler L I) (GY B a xs ruler L I) n s₀ (gFor L I) ((model PR w).den (gFor L I)) [fr] s := by
  intro n
  induction n with
  | zero => intro i last lv s₀ s N fr h1 h2; have := Hy.len; first | lia | omega
  | succ n ih =>
    intro i last lv s₀ s N fr hin hil T hlast hval hz0 hfr
    obtain ⟨kk, c, p, rfl, hc, hk1, hk2⟩ := hfr.ex
    have G := Hy.G
    have D := T.D
    obtain ⟨o, hoN, hoI⟩ := T.it
    obtain ⟨j, hj⟩ := List.mem_iff_getElem?.mp hoN
    have hh : (A.over (gFor L I) [.ret kk none false [] c p []]).handled = none := over_hh hA
    have W := It.list (w := w) (I := I) (a := a) hh (Nat.ne_of_lt (Nat.lt_trans Hy.aL Hy.LI)) xs
    have hls : s.heap.IsList a xs.toArray := let ⟨ol, el, r⟩ := trunc_list T.lis Hy.aL; ⟨ol, D.ext a ol Hy.a102 List.not_mem_nil el, r⟩
    refine g_forLoop ?_
    by_cases hlt : i < xs.length
    · refine W.step D j hj hoI hls hlt ?_
      intro v s₁ o' hv ho' D1
      obtain ⟨x, hx⟩ : ∃ x, ruler[i]? = some x := ⟨_, List.getElem?_eq_getElem (by rw [← Hy.hp.len]; exact hlt)⟩
      obtain ⟨tx, hvx⟩ := Hy.hp.get hx
      rw [hv] at hvx
      cases hvx
      have hall : ∀ p ∈ allN s₀.heap L, p.1 ≠ I → p ∈ N.set j (I, o') := fun p hp hI => set_mem hj (T.all p hp hI) hI
      have hI' : (I, o') ∈ N.set j (I, o') := by rw [set_split hj]; exact List.mem_append.mpr (.inr (.head _))
      refine stL D1 ?_ rfl rfl
      intro s₂ D2
      refine g_stmt ?_
      refine x_ifE ?_
      ((with_reducible refine wpAny_isTrue_Compare1 ?_ ?hm); (case hm => with_unfolding_all rfl))
      ((with_reducible refine' nmQ ?D ?v ?_ ?o ?L); (case L => exact rfl); (case o => exact Eq.refl true); (case D => assumption); (case v => exact rfl))
      refine nmG G (by assumption) (tCM.2 w) ?_
      (with_reducible refine o_eq ?_)
      (with_reducible refine wpAny_truthy_bool ?_)
      refine ⟨fun hb => ?_, fun hb => ?_⟩
      · have hx127 : x = 127 := by have : (x : Int) = 127 := by simpa using hb
                                   first | lia | omega
        subst hx127
        refine x_retN ?_
        refine seg_leaf (r := .ok (.ret .none)) ?_
        rw [hk2]
        refine seg_end (.ok (.ret .none)) ⟨rfl, ?_, genChg D2 hall⟩
        have := hval 0
        rw [show 40 - (n + 1) = i + 0 by first | decide | assumption | exact a1 ‹_› | exact a2 ‹_› | exact a3 ‹_› (by decide) | exact dl ‹_› | exact ee ‹_› ‹_› | lia | omega, this]
        rw [List.drop_eq_getElem_cons (List.getElem?_eq_some_iff.mp hx).1, (List.getElem?_eq_some_iff.mp hx).2]
        rfl
      · have hx127 : x ≠ 127 := by rintro rfl; exact absurd hb (by decide)
        refine x_nil ?_
        have hdrop : ruler.drop i = x :: ruler.drop (i + 1) := by
          rw [List.drop_eq_getElem_cons (List.getElem?_eq_some_iff.mp hx).1, (List.getElem?_eq_some_iff.mp hx).2]
        refine g_if rfl ?_
        ((with_reducible refine wpAny_isTrue_Compare1 ?_ ?hm); (case hm => with_unfolding_all rfl))
        ((with_reducible refine' nmQ ?D ?v ?_ ?o ?L); (case L => exact rfl); (case o => exact Eq.refl true); (case D => assumption); (case v => exact rfl))
        ((with_reducible refine' e_int ?D ?_); (case D => assumption); intro _ _ _)
        (with_reducible refine o_eq ?_)
        (with_reducible refine wpAny_truthy_bool ?_)
        refine ⟨fun h0 => ?_, fun h0 => ?_⟩
        · have hx0 : x = 0 := by have : (x : Int) = 0 := by simpa using h0
                                 first | lia | omega
          subst hx0
          rcases hlast with ⟨rfl, rfl⟩ | ⟨y, t, rfl, rfl⟩
          · exact absurd hx (hz0 rfl)
          refine g_stmt ?_
          refine x_ifE ?_
          ((with_reducible refine wpAny_isTrue_Compare1 ?_ ?hm); (case hm => with_unfolding_all rfl))
          ((with_reducible refine' nmQ ?D ?v ?_ ?o ?L); (case L => exact rfl); (case o => exact Eq.refl true); (case D => assumption); (case v => exact rfl))
          (with_reducible refine e_none ?_)
          refine PyProof.Rows.is_none_gen ?_
          (with_reducible refine wpAny_truthy_bool ?_)
          refine ⟨fun h => (by cases h), fun _ => x_nil ?_⟩
          refine seg_execs_cons ?_
          refine seg_While fun pw => ?_
          refine g_while Hy hA rfl rfl (last := some y) (i := i + 1) (t := t) (y := y) n s₀ _ _ ⟨Act.pre (r := [(Str.ofString "interval", Value.int ((0 : Nat) : Int) tx)]) (by assumption), T.lis, ⟨o', hI', ho'⟩, hall⟩ fun k hk => ?_
          have := hval (k - i)
          rw [show i + (k - i) = k by first | with_reducible exact t18 ‹_› ‹_› | lia | omega, hdrop] at this
          rw [this]; rfl
        · have hx0 : x ≠ 0 := by rintro rfl; exact absurd h0 (by decide)
          refine seg_execs_nil ?_
          refine seg_execs_cons ?_
          refine seg_Expr_Yield rfl rfl rfl (wpAny_mono (E := no) (nmL (by assumption) rfl ?_) (fun _ _ x => x) fun _ _ x => x.elim)
          intro kap hkap
          have T2 : GTop B L I a xs ruler s₀ _ (i + 1) last [(Str.ofString "last_interval", lv), (Str.ofString "interval", Value.int (x : Int) tx)] (N.set j (I, o')) := ⟨by assumption, T.lis, ⟨o', hI', ho'⟩, hall⟩
          obtain ⟨oL, oI, e1, e2, h1, h2⟩ := T2.objs
          refine ⟨x, tx, oL, oI, ?_, rfl, genChg T2.D T2.all, e1, e2, h1, h2, fun hn s'' g f1 f2 => hkap .none s'' ?_⟩
          · have := hval 0
            rw [show 39 - n = i + 0 by first | with_reducible exact t40 ‹_› | lia | omega, this, hdrop]
            unfold gval
            rw [if_neg hx127, if_neg hx0]
          have T3 := T2.again Hy g e1 e2 f1 f2
          refine g_stmt ?_
          refine wpAny_Assign_Name ?_
          refine nmL T3.D rfl ?_ rfl rfl
          refine stL T3.D ?_ rfl rfl
          intro s3 D3
          refine seg_execs_nil ?_
          refine seg_again (by rfl) ?_
          refine ih (i + 1) (some x) _ s'' s3 _ _ (by first | decide | assumption | exact a1 ‹_› | exact a2 ‹_› | exact a3 ‹_› (by decide) | exact dl ‹_› | exact ee ‹_› ‹_› | lia | omega) (by have := (List.getElem?_eq_some_iff.mp hx).1; first | assumption | lia | omega) ⟨Act.pre (r := [(Str.ofString "interval", Value.int (x : Int) tx)]) D3, T3.lis, T3.it, T3.all⟩ (.inr ⟨x, tx, rfl, rfl⟩) (fun k => ?_) (fun h => by cases h) hfr
          have := hval (k + 1)
          rw [show i + (k + 1) = i + 1 + k by first | decide | assumption | exact a1 ‹_› | exact a2 ‹_› | exact a3 ‹_› (by decide) | exact dl ‹_› | exact ee ‹_› ‹_› | lia | omega, hdrop] at this
          rw [this]
          conv => lhs; unfold gval
          rw [if_neg hx127, if_neg hx0]
    · refine W.end (o := o) D j hj (by rw [show xs.length = i by have := Hy.hp.len; first | with_reducible exact t67 ‹_› ‹_› ‹_› | lia | omega]; exact hoI) hls ?_
      intro s₁ D1
      refine seg_leaf (r := .ok .next) ?_
      rw [hk1]
      refine seg_end (.ok (.ret .none)) ⟨rfl, ?_, genChg D1 ?_⟩
      · have := hval 0
        rw [show 40 - (n + 1) = i + 0 by first | decide | assumption | exact a1 ‹_› | exact a2 ‹_› | exact a3 ‹_› (by decide) | exact dl ‹_› | exact ee ‹_› ‹_› | lia | omega, this, List.drop_eq_nil_of_le (by have := Hy.hp.len; first | with_reducible exact t66 ‹_› ‹_› | lia | omega)]
        rfl
      · intro p hp hI
        have h1 := T.all p hp hI
        rw [pw_split hj] at h1
        rw [List.eraseIdx_eq_take_drop_succ]
        rcases List.mem_append.mp h1 with h | h
        · exact List.mem_append.mpr (.inl h)
        · rcases List.mem_cons.mp h with h | h
          · subst h; exact absurd rfl hI
          · exact List.mem_append.mpr (.inr h)
noncomputable abbrev gBody : List Stmt := [.Assign [.Name (Str.ofString "last_interval") gParts.1.1.1] (.Constant .none gParts.1.1.2.1 gParts.1.1.2.2.1) gParts.1.1.2.2.2, .For (.Name (Str.ofString "interval") gParts.1.2.1) gParts.1.2.2.1 gParts.1.2.2.2.1 [] gParts.1.2.2.2.2]
theorem g_start (Hy : GHyp w mg mb B L I a xs ruler) (hA : A.handled = none) {s : Shared} (g : GRes B a xs s.heap) (hI : s.heap.objs.size = I) {m : Str → Option Value} (hn : s.heap.Ns L m) (hm : m (Str.ofString "grouping") = some (.ref a)) (hz0 : ruler[0]? ≠ some 0) :
    (GenState.fresh (.func gBody (gEnv L))).Goes (model PR w) A (GR ruler L I) (GY B a xs ruler L I) 40 (.send .none) s := by
  refine ⟨rfl, ?_⟩
  have D : Act B { s with heap := trunc s.heap L } L [(Str.ofString "grouping", .ref a)] (allN s.heap L) T0 s := genAct g Hy.G.no Hy.low Hy.L2 hn fun x v e => by
    by_cases hx : x = Str.ofString "grouping"
    · subst hx; cases e; exact hm
    · rw [List.lookup_cons, beq_eq_false_iff_ne.mpr hx] at e; cases e
  refine seg_func ?_
  refine g_stmt ?_
  refine wpAny_Assign_Name (e_none ?_)
  obtain ⟨m', F, k⟩ := D.hp.fr
  refine wpAny_storeName_local (by rfl) F.ns (fun h' hn' hs => ?_) (by rfl)
  have D2 := D.to (D.hp.set k hn' hs) (s.toks + 1)
  have hz : h'.objs.size = I := hs.1.trans hI
  refine g_for ?_
  refine nmL D2 rfl ?_ rfl rfl
  have hls : h'.IsList a xs.toArray := let ⟨ol, el, r⟩ := g.lis; ⟨ol, (hs.2 a (Nat.ne_of_lt Hy.aL)).trans el, r⟩
  refine wpAny_pyIter_list hls ?_
  intro kk p hkk
  have D3 := D2.push { cls := .type "list_iterator", data := .fields #[.ref a, .int 0 0] } rfl
  show Seg _ _ _ _ _ _ (.forLoop _ (.ref h'.objs.size) _ _ _) _ _ _
  have hz' : ({ s with heap := h', toks := s.toks + 1 } : Shared).heap.objs.size = I := hz
  rw [hz'] at D3
  rw [hz]
  refine g_top Hy hA 40 0 none .none s _ ((I, { cls := .type "list_iterator", data := .fields #[.ref a, .int 0 0] }) :: allN s.heap L) _ (by first | decide | assumption | exact a1 ‹_› | exact a2 ‹_› | exact a3 ‹_› (by decide) | exact dl ‹_› | exact ee ‹_› ‹_› | lia | omega) (Nat.zero_le _) ⟨D3.drop fun x v e => ?_, g.lis, ⟨_, .head _, rfl, rfl⟩, fun q hq _ => List.mem_cons_of_mem _ hq⟩ (.inl ⟨rfl, rfl⟩) (fun k => by rw [Nat.zero_add, List.drop_zero]) (fun _ => hz0) ⟨kk, _, p, rfl, rfl, hkk .next, hkk (.ret .none)⟩
  by_cases hx : x = Str.ofString "last_interval"
  · subst hx; exact e
  · rw [List.lookup_cons, beq_eq_false_iff_ne.mpr hx] at e; cases e
end
section
open Builtin Builtin.SmallTypes
section
variable {w : World} {A : Around} {s : Shared} {E : Value → Shared → Prop} {Q : Value → Shared → Prop}
theorem nx_range_item {it : Addr} {x left step : Int} (hit : IsRangeIter s.heap it x left step) (hleft : 0 < left)
    (hQ : ∀ h', IsRangeIter h' it (x + step) (left - 1) step → Heap.SameBut it s.heap h' → Q (.int x s.toks) { s with heap := h', toks := s.toks + 1 }) : wpAny (model PR w) A (nextOf (.ref it)) Q E s := by
  have hT : s.TypeIs (.ref it) "range_iterator" := ⟨_, hit, rfl⟩
  unfold nextOf
  refine wpAny_bind (wpAny_callSpecial?_slot (name := Str.ofString "__next__") hT F.slot_range_iterator_next
    (call_meets F.slot_range_iterator_next hT F.entry_range_iterator_next (F.args_range_iterator_next_1 _) (AutoRange.range_iterator___next___range_iterator_1 it x left step (by first | decide | assumption | exact a1 ‹_› | exact a2 ‹_› | exact a3 ‹_› (by decide) | exact dl ‹_› | exact ee ‹_› ‹_› | lia | omega)) ⟨hit, ?_⟩))
  exact wpAny_pure (hQ _ (Heap.get?_update_self _ (Heap.get?_update_self _ hit rfl) rfl) ((Heap.SameBut.update ..).trans (Heap.SameBut.update ..)))
noncomputable abbrev StopAt (h : Heap) (e : Addr) : Prop := ∃ o, h.get? e = some o ∧ o.cls = .type "StopIteration"
theorem raise_stop {α : Type} {h₀ : Heap} {Qa : α → Shared → Prop} (hh : A.handled = none) (k : ∀ b o, h₀.get? b = some o → s.heap.get? b = some o)
    (hE : ∀ h' e, (∀ b o, h₀.get? b = some o → h'.get? b = some o) → StopAt h' e → E (.ref e) { s with heap := h' }) :
    wpAny (model PR w) A (do raiseNew (← newExc (.type "StopIteration") []) : Sem α) Qa E s := by
  refine wpAny_bind ?_
  simp only [newExc, newTuple]
  refine wpAny_bind (wpAny_newObj_type ?_ (by size_fits))
  refine wpAny_bind (m := firstArgMember _ _) (wpAny_of_eq (a := Value.none) (by first | rfl | (simp only [firstArgMember]; rfl)) ?_)
  refine wpAny_newObj_type ?_ (by size_fits)
  simp only [raiseNew]
  refine wpAny_bind (wpAny_handled ?_)
  rw [hh]
  refine wpAny_bind (wpAny_pure (wpAny_throw ?_))
  exact hE _ _ (fun b o e => Heap.get?_push_of_some _ (Heap.get?_push_of_some _ (k b o e))) ⟨_, Heap.get?_push_size _ rfl, rfl⟩
theorem nx_range_end {it : Addr} {x left step : Int} (hh : A.handled = none) (hit : IsRangeIter s.heap it x left step) (hleft : left ≤ 0)
    (hE : ∀ h' e, (∀ b o, s.heap.get? b = some o → h'.get? b = some o) → StopAt h' e → E (.ref e) { s with heap := h' }) : wpAny (model PR w) A (nextOf (.ref it)) Q E s := by
  have hT : s.TypeIs (.ref it) "range_iterator" := ⟨_, hit, rfl⟩
  unfold nextOf
  refine wpAny_bind (wpAny_callSpecial?_slot (name := Str.ofString "__next__") hT F.slot_range_iterator_next
    (wpAny_call_entry F.slot_range_iterator_next hT F.entry_range_iterator_next ?_ (F.args_range_iterator_next_1 _)))
  show wpAny _ _ (field (.ref it) 0 >>= _) _ _ s
  refine wpAny_bind (wpAny_field hit rfl (x := rawInt x) rfl ?_)
  show wpAny _ _ (field (.ref it) 1 >>= _) _ _ s
  refine wpAny_bind (wpAny_field hit rfl (x := rawInt left) rfl ?_)
  show wpAny _ _ (field (.ref it) 2 >>= _) _ _ s
  refine wpAny_bind (wpAny_field hit rfl (x := rawInt step) rfl ?_)
  show wpAny _ _ (if left ≤ 0 then _ else _) _ _ s
  rw [if_pos hleft]
  refine wpAny_bind (wpAny_rule ?_)
  refine wpAny_bind ?_
  exact raise_stop (h₀ := s.heap) hh (fun _ _ e => e) hE
theorem nx_gen {a : Addr} {g n : Nat} {gs : GenState} {P : Nat → Shared → Shared → Prop} {Y : Protocol} (hh : A.handled = none) (hl : s.heap.NoLimit) (hroom : A.depth < recursionLimit)
    (hg : s.heap.IsGen a g) (hgs : s.gens[g]? = some gs)
    (hgo : gs.Goes (model PR w) A.in1 (fun n s₀ r s₁ => r = .ok (.ret .none) ∧ P n s₀ s₁) Y n (.send .none) (s.setGen g .running))
    (hY : ∀ v s₁ gs', gs'.bare = true → Y (n - 1) (s.setGen g .running) v s₁ (fun r' s'' => match n with
        | 0 => False
        | m + 1 => gs'.Goes (model PR w) A.in1 (fun n s₀ r s₁ => r = .ok (.ret .none) ∧ P n s₀ s₁) Y m r' s'') → Q v (s₁.setGen g gs'))
    (hP : ∀ s₁, P n (s.setGen g .running) s₁ → ∀ h' e, (∀ b o, s₁.heap.get? b = some o → h'.get? b = some o) → StopAt h' e → E (.ref e) { s₁.setGen g .finished with heap := h' }) :
    wpAny (model PR w) A (nextOf (.ref a)) Q E s := by
  unfold nextOf
  refine wpAny_bind (wpAny_callSpecial?_slot (name := Str.ofString "__next__") hg.typeIs slot_gen_next
    (wpAny_call_entry slot_gen_next hg.typeIs entry_gen_next ?_ (args_gen_next _)))
  show wpAny _ _ (Builtin.Generator.genWake (.ref a) (.send .none)) _ _ s
  unfold Builtin.Generator.genWake
  refine wpAny_bind (wpAny_holding (wpAny_genNumber hg (wpAny_bind (wpAny_genState hgs ?_))))
  cases gs with
  | running => exact hgo.elim
  | finished => exact hgo.elim
  | _ =>
    refine wpAny_bind (wpAny_roomToWake hl hroom ?_)
    show wpAny _ _ (.resume g (.send .none) [] _) _ _ s
    refine wpAny_resumeQ hgs hgo (fun x s₁ hx => ?_) (fun v s₁ gs' hb hv => ?_)
    · obtain ⟨rfl, hp⟩ := hx
      show wpAny _ _ (newExc (.type "StopIteration") [] >>= _) _ _ _
      refine wpAny_bind ?_
      simp only [newExc, newTuple]
      refine wpAny_bind (wpAny_newObj_type ?_ (by size_fits))
      refine wpAny_bind (m := firstArgMember _ _) (wpAny_of_eq (a := Value.none) (by first | rfl | (simp only [firstArgMember]; rfl)) ?_)
      refine wpAny_newObj_type ?_ (by size_fits)
      simp only [raiseNew]
      refine wpAny_bind (wpAny_bind (wpAny_handled ?_))
      rw [show A.in1.handled = none from hh]
      refine wpAny_throw ?_
      exact hP s₁ hp _ _ (fun b o hb => Heap.get?_push_of_some _ (Heap.get?_push_of_some _ hb)) ⟨_, Heap.get?_push_size _ rfl, rfl⟩
    · exact wpAny_pure ⟨v, rfl, wpAny_pure (hY v s₁ gs' hb hv)⟩
noncomputable abbrev zipO (f0 f1 : Value) (it kp : Addr) : Obj := { cls := .type "zip", dict := none, data := .fields #[f0, f1, .bool false, .ref it, .ref kp], slots := #[] }
noncomputable abbrev tupO (xs : Array Value) (n : Nat) : Obj := { cls := .type "tuple", dict := none, data := .seq xs n, slots := #[] }
theorem zip_next {z it kp r ge : Addr} {f1 k0 k1 : Value} {n0 n1 : Nat} (hz : s.heap.get? z = some (zipO .none f1 it kp)) (hits : s.heap.get? it = some (tupO #[.ref r, .ref ge] n0)) (hkp : s.heap.get? kp = some (tupO #[k0, k1] n1)) (hzk : z ≠ kp)
    (h : ∀ h1, h1.get? z = some (zipO .ellipsis f1 it kp) → Heap.SameBut z s.heap h1 →
      wpAny (model PR w) A (nextOf (.ref r)) (fun v1 s1 => ∃ n1, s1.heap.get? kp = some (tupO #[k0, k1] n1) ∧ ∀ h2 n2, h2.get? kp = some (tupO #[v1, k1] n2) → Heap.SameBut kp s1.heap h2 →
        wpAny (model PR w) A (nextOf (.ref ge)) (fun v2 s2 => ∃ n2, s2.heap.get? kp = some (tupO #[v1, k1] n2) ∧ s2.heap.get? z = some (zipO .ellipsis f1 it kp) ∧
            ∀ h3 n3, h3.get? kp = some (tupO #[v1, v2] n3) → h3.get? z = some (zipO (rawInt s2.heap.objs.size) (.bool false) it kp) → h3.get? s2.heap.objs.size = some (tupO #[v1, v2] 0) → (∀ b o, b ≠ kp → b ≠ z → s2.heap.get? b = some o → h3.get? b = some o) → Q (.ref s2.heap.objs.size) { s2 with heap := h3 })
          (fun e s2 => s2.heap.get? z = some (zipO .ellipsis f1 it kp) ∧ ∀ h3, Heap.SameBut z s2.heap h3 → h3.get? z = some (zipO .none f1 it kp) → E e { s2 with heap := h3 }) { s1 with heap := h2 })
        (fun e s1 => s1.heap.get? z = some (zipO .ellipsis f1 it kp) ∧ ∀ h3, Heap.SameBut z s1.heap h3 → h3.get? z = some (zipO .none f1 it kp) → E e { s1 with heap := h3 }) { s with heap := h1 }) :
    wpAny (model PR w) A (Builtin.«zip.__next__» ⟨[.ref z], []⟩) (fun fin s' => ∃ v, fin = .done (.ret v) ∧ Q v s') E s := by
  show wpAny _ _ (field (.ref z) 2 >>= _) _ _ _
  refine wpAny_bind (wpAny_field hz rfl (x := .bool false) rfl ?_)
  show wpAny _ _ (field (.ref z) 3 >>= _) _ _ _
  refine wpAny_bind (wpAny_field hz rfl (x := .ref it) rfl ?_)
  refine wpAny_bind (wpAny_seqItems hits rfl ?_)
  dsimp only
  show wpAny _ _ (if (#[Value.ref r, Value.ref ge] : Array Value).isEmpty = true then _ else _) _ _ _
  rw [if_neg (show ¬ ((#[Value.ref r, Value.ref ge] : Array Value).isEmpty = true) from fun h => Bool.noConfusion (show false = true from h))]
  refine wpAny_bind ?_
  · unfold ownedTupleIsFree
    refine wpAny_bind (wpAny_field hz rfl (x := .none) rfl (wpAny_pure ?_))
    simp only [if_true]
    refine wpAny_bind (wpAny_rule ?_)
    refine wpAny_bind (wpAny_field hz rfl (x := .ref kp) rfl ?_)
    dsimp only
    refine wpAny_bind (wpAny_setField_rec hz (by simp) fun h1 hz1 hs1 => ?_)
    rw [show [Value.ref r, Value.ref ge].zipIdx = [(Value.ref r, 0), (Value.ref ge, 1)] from rfl]
    refine wpAny_bind ?_
    rw [List.forIn_cons]
    refine wpAny_bind (wpAny_bind (wpAny_onRaise ?_))
    show wpAny _ _ (nextOf (.ref r) >>= fun x => pure (some x)) _ _ _
    refine wpAny_bind (wpAny_mono (h h1 hz1 hs1) (fun v1 s1 a1 => wpAny_pure ?_) fun e s1 a1 => ?_)
    · obtain ⟨n1', hkp1, a1⟩ := a1
      dsimp only
      refine wpAny_bind (wpAny_seqItems hkp1 rfl ?_)
      dsimp only
      refine wpAny_bind (wpAny_updateSeq hkp1 rfl (wpAny_bind (wpAny_letGo (wpAny_pure ?_))))
      dsimp only
      rw [List.forIn_cons]
      refine wpAny_bind (wpAny_bind (wpAny_onRaise ?_))
      show wpAny _ _ (nextOf (.ref ge) >>= fun x => pure (some x)) _ _ _
      have hkp2 : ∃ n2, (s1.heap.update kp (Obj.mapSeq fun x => x.setIfInBounds 0 v1)).get? kp = some (tupO #[v1, k1] n2) := ⟨_, (Heap.get?_update_self _ hkp1 rfl).trans rfl⟩
      obtain ⟨n2, hkp2⟩ := hkp2
      refine wpAny_bind (wpAny_mono (a1 _ n2 hkp2 (Heap.SameBut.update ..)) (fun v2 s2 a2 => wpAny_pure ?_) fun e s2 a2 => ?_)
      · obtain ⟨n2', hkp2', hz2, a2⟩ := a2
        dsimp only
        refine wpAny_bind (wpAny_seqItems hkp2' rfl ?_)
        dsimp only
        refine wpAny_bind (wpAny_updateSeq hkp2' rfl (wpAny_bind (wpAny_letGo (wpAny_pure ?_))))
        dsimp only
        rw [List.forIn_nil]
        refine wpAny_pure ?_
        dsimp only
        have hkp3 : ∃ n3, (s2.heap.update kp (Obj.mapSeq fun x => x.setIfInBounds 1 v2)).get? kp = some (tupO #[v1, v2] n3) := ⟨_, (Heap.get?_update_self _ hkp2' rfl).trans rfl⟩
        obtain ⟨n3, hkp3⟩ := hkp3
        have hs3 : Heap.SameBut kp s2.heap (s2.heap.update kp (Obj.mapSeq fun x => x.setIfInBounds 1 v2)) := Heap.SameBut.update ..
        have hz3 := (hs3.2 z hzk).trans hz2
        generalize (s2.heap.update kp (Obj.mapSeq fun x => x.setIfInBounds 1 v2)) = H3 at *
        refine wpAny_bind (wpAny_seqItems hkp3 rfl ?_)
        dsimp only
        refine wpAny_bind (wpAny_newTuple ?_)
        have hsz : H3.objs.size = s2.heap.objs.size := hs3.1
        dsimp only
        have hz4 : (H3.push { cls := .type "tuple", data := .seq #[v1, v2].toList.toArray }).get? z = some (zipO .ellipsis f1 it kp) := Heap.get?_push_of_some _ hz3
        have hT4 : (H3.push { cls := .type "tuple", data := .seq #[v1, v2].toList.toArray }).get? s2.heap.objs.size = some (tupO #[v1, v2] 0) := by rw [← hsz]; exact Heap.get?_push_size _ rfl
        have k4 : ∀ b o, H3.get? b = some o → (H3.push { cls := .type "tuple", data := .seq #[v1, v2].toList.toArray }).get? b = some o := fun b o e => Heap.get?_push_of_some _ e
        rw [hsz]
        generalize (H3.push { cls := .type "tuple", data := .seq #[v1, v2].toList.toArray }) = H4 at *
        refine wpAny_bind ?_
        unfold ownedTupleHandOut
        refine wpAny_bind (wpAny_setField_rec hz4 (by simp) fun h5 hz5 hs5 => ?_)
        refine wpAny_setField_rec hz5 (by simp) fun h6 hz6 hs6 => ?_
        have nzT : s2.heap.objs.size ≠ z := Nat.ne_of_gt (Heap.lt_size hz2)
        refine wpAny_pure ⟨_, rfl, a2 h6 n3 ?_ hz6 ?_ ?_⟩
        · exact (hs6.2 kp (Ne.symm hzk)).trans ((hs5.2 kp (Ne.symm hzk)).trans (k4 _ _ hkp3))
        · exact (hs6.2 _ nzT).trans ((hs5.2 _ nzT).trans hT4)
        · exact fun b o hb hbz e => (hs6.2 b hbz).trans ((hs5.2 b hbz).trans (k4 _ _ ((hs3.2 b hb).trans e)))
      · obtain ⟨hze, a2⟩ := a2
        exact wpAny_setField_rec hze (by simp) fun h3 hz3 hs3 => a2 h3 hs3 hz3
    · obtain ⟨hze, a1⟩ := a1
      exact wpAny_setField_rec hze (by simp) fun h3 hz3 hs3 => a1 h3 hs3 hz3
end
end
section
open Builtin Builtin.SmallTypes
section
variable {w : World} {mg mb : Str → Option Value} {B : Heap} {A : Around} {s₀ s : Shared} {R : Result → Shared → Prop} {L : Addr} {l : List (Str × Value)} {N : List (Addr × Obj)} {P : Heap → Prop} {Q : Value → Shared → Prop}
noncomputable abbrev genO (g : Nat) (nm qn : Value) : Obj := { cls := .type "generator", data := .fields #[.int g 0, nm, qn] }
theorem grp_spec (G : Gnd w mg mb B) (O : Ok B s.heap) (r : Room 1 A) {a : Addr}
    (k : ∀ s' ge oL nm qn, Got s s' [(ge, genO s.gens.size nm qn), (s.heap.objs.size, oL)] → s'.gens = s.gens.push (.fresh (.func gBody (gEnv s.heap.objs.size))) → (∀ h : Heap, h.get? s.heap.objs.size = some oL → h.Ns s.heap.objs.size (fun x => [(Str.ofString "grouping", Value.ref a)].lookup x)) → R (.ok (.ret (.ref ge))) s') :
    codeAny (model PR w) A (.call (.ref 76) ⟨[.ref a], []⟩) R s := by
  obtain ⟨p, loose, mean, T⟩ := G.T
  refine codeAny_call_generator (body := gBody) r.room (O.base _ _ (G.X _ _ (F76.2 w))) rfl rfl rfl gParts.2 ((codeRec_of G.X cd76).keeps O.base) ?_
  refine BindsTo.of_eq (binds := [(Str.ofString "grouping", Value.ref a)]) (by rfl) _ _ _ _ ?_
  refine wpAny_newFunctionEnv (by decide) (locs rfl) (fun h₁ hn hsb => ⟨?_, ?_⟩) rfl
  · exact ((T.nolimit).keeps O.base).fresh _ hsb
  have k₁ : ∀ b o, s.heap.get? b = some o → h₁.get? b = some o := fun b o e => hsb.extBut b o (Nat.ne_of_lt (Heap.lt_size e)) (Heap.get?_push_of_some _ e)
  have D : Act B s s.heap.objs.size [(Str.ofString "grouping", .ref a)] [] T0 { s with heap := h₁, toks := s.toks + 1 } := ⟨O.act hn k₁, rfl, id, fun _ _ e => e⟩
  obtain ⟨oL, es, ep, e1, e2, e3, e4⟩ := id hn
  refine k _ h₁.objs.size oL (.str F76.1.name (s.toks + 1)) (.str F76.1.qualname (s.toks + 1 + 1)) ⟨⟨⟨rfl, fun g => g.push rfl, fun i g e => by rw [Array.getElem?_push, if_neg (Nat.ne_of_lt (Array.getElem?_eq_some_iff.mp e).1)]; exact e⟩, fun b o _ _ e => Heap.get?_push_of_some _ (k₁ b o e), (D.hp.push (genO s.gens.size (.str F76.1.name (s.toks + 1)) (.str F76.1.qualname (s.toks + 1 + 1))) rfl).tab⟩, fun p hp => ?_, ?_⟩ rfl fun h e => ⟨oL, es, ep, e, e2, e3, e4⟩
  · rcases List.mem_cons.mp hp with rfl | hp
    · exact ⟨Heap.get?_push_size _ rfl, Nat.le_of_lt (Heap.lt_size e1)⟩
    · rcases List.mem_singleton.mp hp with rfl
      exact ⟨Heap.get?_push_of_some _ e1, Nat.le_refl _⟩
  · exact List.pairwise_cons.mpr ⟨fun b hb => by rcases List.mem_singleton.mp hb with rfl; exact Heap.lt_size e1, List.pairwise_singleton ..⟩
noncomputable abbrev zH1 (h : Heap) (x y c : Int) : Heap := h.push { cls := .type "range_iterator", data := .fields #[rawInt x, rawInt (Builtin.Range.rangeSize x y c), rawInt c] }
noncomputable abbrev zH2 (h : Heap) (x y c : Int) (ge : Addr) : Heap := (zH1 h x y c).push { cls := .type "tuple", data := .seq #[.ref h.objs.size, .ref ge] }
noncomputable abbrev zH3 (h : Heap) (x y c : Int) (ge : Addr) : Heap := (zH2 h x y c ge).push { cls := .type "tuple", data := .seq #[.none, .none] }
noncomputable abbrev zH4 (h : Heap) (x y c : Int) (ge : Addr) : Heap := (zH3 h x y c ge).push { cls := .type "zip", data := .fields #[.none, .bool false, .bool false, .ref (zH1 h x y c).objs.size, .ref (zH2 h x y c ge).objs.size] }
theorem meets_zip (r ge : Addr) (x y c : Int) (g : Nat) (t u v : Tok) (hs : Builtin.Range.small x y c = true) :
    Meets (Builtin.«zip.__new__» ⟨[.type "zip", .ref r, .ref ge], []⟩) (fun _ R s => IsRange s.heap r x y c t u v ∧ s.heap.IsGen ge g ∧
      R (.ok (.ret (.ref (zH3 s.heap x y c ge).objs.size))) { s with heap := zH4 s.heap x y c ge }) :=
  .of_wp fun prog w A R s h => by
    obtain ⟨hp, g, d, tk, os⟩ := s; obtain ⟨hl1, hl2, h⟩ := h
    have hsub := sub_zip
    have hL1 : IsRange (Shared.heap ⟨hp, g, d, tk, os⟩) r x y c t u v := hl1
    have hL2 : Heap.IsGen (Shared.heap ⟨hp.push { cls := .type "range_iterator", data := .fields #[rawInt x, rawInt (Builtin.Range.rangeSize x y c), rawInt c] }, g, d, tk, os⟩) ge _ := Heap.IsGen.push hl2 _
    wp_walk using wpAny_pyIter_range hL1 hs, wpAny_pyIter_gen hL2
    exact ⟨_, rfl, h⟩
end
end
section
open Builtin Builtin.SmallTypes
section
variable {B hs h h' : Heap} {L a b : Addr} {l : List (Str × Value)} {N : List (Addr × Obj)} {oa oa' ob ob' : Obj}
theorem map_set {N : List (Addr × Obj)} {j : Nat} {a : Addr} {o o' : Obj} (hj : N[j]? = some (a, o)) : (N.set j (a, o')).map (·.1) = N.map (·.1) := by
  rw [set_split hj, List.map_append, List.map_cons]
  conv => rhs; rw [pw_split hj, List.map_append, List.map_cons]
theorem ord_ne {N : List (Addr × Obj)} (ho : (N.map (·.1)).Pairwise (· > ·)) {i j : Nat} {p q : Addr × Obj} (hi : N[i]? = some p) (hj : N[j]? = some q) (hij : i ≠ j) : p.1 ≠ q.1 := by
  rw [List.pairwise_map] at ho
  have hp := List.pairwise_iff_getElem.mp ho
  obtain ⟨h1, e1⟩ := List.getElem?_eq_some_iff.mp hi
  obtain ⟨h2, e2⟩ := List.getElem?_eq_some_iff.mp hj
  rcases Nat.lt_or_gt_of_ne hij with h | h
  · have := hp i j h1 h2 h
    rw [e1, e2] at this
    exact Nat.ne_of_gt this
  · have := hp j i h2 h1 h
    rw [e1, e2] at this
    exact Nat.ne_of_lt this
theorem Hp.renew (D : Hp B hs L l N T0 h) (i j : Nat) (hi : N[i]? = some (a, oa)) (hj : N[j]? = some (b, ob)) (hij : i ≠ j)
    (s : ∀ c oc, c ≠ 102 → c ≠ a → c ≠ b → h.get? c = some oc → h'.get? c = some oc) (ha : h'.get? a = some oa') (hb : h'.get? b = some ob') (t : TabOk h') : Hp B hs L l ((N.set i (a, oa')).set j (b, ob')) T0 h' where
  ns := let ⟨m, ⟨o, es, ep, e, r⟩, k⟩ := D.ns; ⟨m, ⟨o, es, ep, s _ _ (Nat.ne_of_gt D.LL) (Ne.symm (D.ownAt i hi).2) (Ne.symm (D.ownAt j hj).2) e, r⟩, k⟩
  ext := fun c oc h1 h2 e => s c oc h1 (Nat.ne_of_lt (Nat.lt_of_lt_of_le (Heap.lt_size e) (D.ownAt i hi).1)) (Nat.ne_of_lt (Nat.lt_of_lt_of_le (Heap.lt_size e) (D.ownAt j hj).1)) (D.ext c oc h1 h2 e)
  hl := D.hl
  get := fun p hp => by
    obtain ⟨k, hk⟩ := List.mem_iff_getElem?.mp hp
    rw [List.getElem?_set] at hk
    split at hk
    · split at hk
      · cases hk; exact hb
      · cases hk
    · rename_i hjk
      rw [List.getElem?_set] at hk
      split at hk
      · split at hk
        · cases hk; exact ha
        · cases hk
      · rename_i hik
        have hm := List.mem_of_getElem? hk
        exact s _ _ (D.n102 hm) (ord_ne D.ord hk hi (Ne.symm hik)) (ord_ne D.ord hk hj (Ne.symm hjk)) (D.get p hm)
  own := fun p hp => by
    have hp' : p.1 ∈ ((N.set i (a, oa')).set j (b, ob')).map (·.1) := List.mem_map_of_mem hp
    rw [map_set (o := ob) (by rw [List.getElem?_set, if_neg hij]; exact hj), map_set hi] at hp'
    obtain ⟨q, hq, e⟩ := List.mem_map.mp hp'
    rw [← e]; exact D.own q hq
  ord := by rw [map_set (o := ob) (by rw [List.getElem?_set, if_neg hij]; exact hj), map_set hi]; exact D.ord
  base := fun c oc e => s c oc (fun q => by rw [q, D.no] at e; cases e) (Nat.ne_of_lt (Nat.lt_of_lt_of_le (Heap.lt_size e) (Nat.le_trans D.low (D.ownAt i hi).1))) (Nat.ne_of_lt (Nat.lt_of_lt_of_le (Heap.lt_size e) (Nat.le_trans D.low (D.ownAt j hj).1))) (D.base c oc e)
  no := D.no
  low := D.low
  L2 := D.L2
  tab := t
  kept := Kept.t0
  fact := trivial
theorem Hp.renew1 (D : Hp B hs L l N T0 h) (i : Nat) (hi : N[i]? = some (a, oa)) (s : ∀ c oc, c ≠ 102 → c ≠ a → h.get? c = some oc → h'.get? c = some oc) (ha : h'.get? a = some oa') (t : TabOk h') : Hp B hs L l (N.set i (a, oa')) T0 h' where
  ns := let ⟨m, ⟨o, es, ep, e, r⟩, k⟩ := D.ns; ⟨m, ⟨o, es, ep, s _ _ (Nat.ne_of_gt D.LL) (Ne.symm (D.ownAt i hi).2) e, r⟩, k⟩
  ext := fun c oc h1 h2 e => s c oc h1 (Nat.ne_of_lt (Nat.lt_of_lt_of_le (Heap.lt_size e) (D.ownAt i hi).1)) (D.ext c oc h1 h2 e)
  hl := D.hl
  get := fun p hp => by
    obtain ⟨k, hk⟩ := List.mem_iff_getElem?.mp hp
    rw [List.getElem?_set] at hk
    split at hk
    · split at hk
      · cases hk; exact ha
      · cases hk
    · rename_i hik
      have hm := List.mem_of_getElem? hk
      exact s _ _ (D.n102 hm) (ord_ne D.ord hk hi (Ne.symm hik)) (D.get p hm)
  own := fun p hp => by
    have hp' : p.1 ∈ (N.set i (a, oa')).map (·.1) := List.mem_map_of_mem hp
    rw [map_set hi] at hp'
    obtain ⟨q, hq, e⟩ := List.mem_map.mp hp'
    rw [← e]; exact D.own q hq
  ord := by rw [map_set hi]; exact D.ord
  base := fun c oc e => s c oc (fun q => by rw [q, D.no] at e; cases e) (Nat.ne_of_lt (Nat.lt_of_lt_of_le (Heap.lt_size e) (Nat.le_trans D.low (D.ownAt i hi).1))) (D.base c oc e)
  no := D.no
  low := D.low
  L2 := D.L2
  tab := t
  kept := Kept.t0
  fact := trivial
theorem Hp.fade (D : Hp B hs L l N T0 h) (X : List Addr) (hX : ∀ b ∈ X, hs.objs.size ≤ b ∧ b ≠ L ∧ ∀ p ∈ N, p.1 ≠ b) (s : ∀ c oc, c ≠ 102 → c ∉ X → h.get? c = some oc → h'.get? c = some oc) (t : TabOk h') : Hp B hs L l N T0 h' where
  ns := let ⟨m, ⟨o, es, ep, e, r⟩, k⟩ := D.ns; ⟨m, ⟨o, es, ep, s _ _ (Nat.ne_of_gt D.LL) (fun q => (hX _ q).2.1 rfl) e, r⟩, k⟩
  ext := fun c oc h1 h2 e => s c oc h1 (fun q => absurd (Heap.lt_size e) (Nat.not_lt.mpr (hX c q).1)) (D.ext c oc h1 h2 e)
  hl := D.hl
  get := fun p hp => s _ _ (D.n102 hp) (fun q => (hX _ q).2.2 p hp rfl) (D.get p hp)
  own := D.own
  ord := D.ord
  base := fun c oc e => s c oc (fun q => by rw [q, D.no] at e; cases e) (fun q => absurd (Heap.lt_size e) (Nat.not_lt.mpr (Nat.le_trans D.low (hX c q).1))) (D.base c oc e)
  no := D.no
  low := D.low
  L2 := D.L2
  tab := t
  kept := Kept.t0
  fact := trivial
end
section
variable {w : World} {B : Heap} {A : Around} {s₀ s s' : Shared} {L : Addr} {l l' : List (Str × Value)} {N N' : List (Addr × Obj)} {P P' : Heap → Prop} {Q : Value → Shared → Prop}
theorem Act.rebase (D : Act B s₀ L l N P s) : Act B { s with heap := s₀.heap } L l N P s := ⟨D.hp, rfl, id, fun _ _ e => e⟩
theorem Act.rejoin {L' : Addr} (D : Act B s₀ L l N P s) (D' : Act B { s with heap := s₀.heap } L' l' N' P' s') : Act B s₀ L' l' N' P' s' := ⟨D'.hp, D'.like.os.trans D.like.os, fun g => D'.like.gens (D.like.gens g), fun i g e => D'.like.kg i g (D.like.kg i g e)⟩
theorem Act.swap {oL : Obj} {C : Addr} {lc : List (Str × Value)} (D : Act B s₀ C lc (N ++ [(L, oL)]) T0 s) (hl : s₀.heap.objs.size ≤ L) {m : Str → Option Value} (hn : ∀ h : Heap, h.get? L = some oL → h.Ns L m) (hm : ∀ x v, l.lookup x = some v → m x = some v) : Act B s₀ L l N T0 s := by
  have hmem : ∀ p ∈ N, p ∈ N ++ [(L, oL)] := fun p hp => List.mem_append.mpr (.inl hp)
  have hL : (L, oL) ∈ N ++ [(L, oL)] := List.mem_append.mpr (.inr (.head _))
  have ho := D.hp.ord
  rw [List.map_append] at ho
  refine ⟨{ D.hp with
    ns := ⟨m, hn _ (D.hp.get _ hL), hm⟩
    hl := hl
    get := fun p hp => D.hp.get p (hmem p hp)
    own := fun p hp => ⟨(D.hp.own p (hmem p hp)).1, Nat.ne_of_gt ((List.pairwise_append.mp ho).2.2 p.1 (List.mem_map_of_mem hp) L (.head _))⟩
    ord := (List.pairwise_append.mp ho).1 }, D.like⟩
theorem c_zip {r ge : Addr} {g n : Nat} {t u v : Tok} (D : Act B s₀ L l N P s) (hr : IsRange s.heap r 0 (n : Int) 1 t u v) (hn : n ≤ 1000) (hg : s.heap.IsGen ge g)
    (h : ∀ s' z kp it ri o, RI 0 1 n 0 o → s'.gens = s.gens → Act B s₀ L l ((z, zipO .none (.bool false) it kp) :: (kp, tupO #[.none, .none] 0) :: (it, tupO #[.ref ri, .ref ge] 0) :: (ri, o) :: N) P s' → Q (.ref z) s') :
    wpAny (model PR w) A (call (.type "zip") [.ref r, .ref ge]) Q no s := by
  have hs := small_one (a := 0) (b := (n : Int)) (by first | decide | assumption | exact a1 ‹_› | exact a2 ‹_› | exact a3 ‹_› (by decide) | exact dl ‹_› | exact ee ‹_› ‹_› | lia | omega) (by first | decide | assumption | exact a1 ‹_› | exact a2 ‹_› | exact a3 ‹_› (by decide) | exact dl ‹_› | exact ee ‹_› ‹_› | lia | omega) (by first | decide | assumption | exact a1 ‹_› | exact a2 ‹_› | exact a3 ‹_› (by decide) | exact dl ‹_› | exact ee ‹_› ‹_› | lia | omega) (by first | with_reducible exact s59 ‹_› | lia | omega)
  refine callType_new F.called_zip (by decide) (F.typeCall_zip_2 _ _) (F.newCall_zip_2 _ _) (fun obj => F.args_object_init_3 obj _ _) F.entry_zip_new (meets_zip r ge 0 n 1 g t u v hs) ⟨hr, hg, ⟨_, Heap.get?_push_size _ rfl, rfl⟩, ?_⟩
  have D1 := D.push { cls := .type "range_iterator", data := .fields #[rawInt 0, rawInt (Builtin.Range.rangeSize 0 (n : Int) 1), rawInt 1] } rfl
  have D2 := D1.push { cls := .type "tuple", data := .seq #[.ref s.heap.objs.size, .ref ge] } rfl
  have D3 := D2.push { cls := .type "tuple", data := .seq #[.none, .none] } rfl
  have D4 := D3.push { cls := .type "zip", data := .fields #[.none, .bool false, .bool false, .ref (zH1 s.heap 0 n 1).objs.size, .ref (zH2 s.heap 0 n 1 ge).objs.size] } rfl
  exact h _ _ _ _ _ _ (by unfold RI; rw [rangeSize_one, show (0 : Int) + ((0 : Nat) : Int) * 1 = 0 by simp, show (if (0 : Int) < n then (n : Int) - 0 else 0) = (n : Int) - ((0 : Nat) : Int) by split <;> first | exact rfl | exact t50 ‹_› | lia | omega]) rfl D4
end
end
section
open Builtin Builtin.SmallTypes
noncomputable abbrev Nz (Da z kp it ri ge Lg L : Addr) (ys : List Value) (m : Nat) (f0 f1 k0 k1 : Value) (n2 : Nat) (o og oL oLd : Obj) : List (Addr × Obj) :=
  [(Da, lst ys m), (z, zipO f0 f1 it kp), (kp, tupO #[k0, k1] n2), (it, tupO #[.ref ri, .ref ge] 0), (ri, o), (ge, og), (Lg, oL), (L, oLd)]
section
variable {w : World} {mg mb : Str → Option Value} {B : Heap} {A : Around} {sb s s' : Shared} {C : Addr}
theorem setGen_get {s : Shared} {g : Nat} {gs gs' : GenState} (h : s.gens[g]? = some gs) : (s.setGen g gs').gens[g]? = some gs' := by
  have := (Array.getElem?_eq_some_iff.mp h).1
  unfold Shared.setGen
  simp [this]
theorem setGen_ne {s : Shared} {g i : Nat} {gs' : GenState} (h : i ≠ g) : (s.setGen g gs').gens[i]? = s.gens[i]? := by
  unfold Shared.setGen
  simp [Ne.symm h]
theorem bare_setGen {s : Shared} {g : Nat} {gs' : GenState} (h : AllBare s.gens) (hb : gs'.bare = true) : AllBare (s.setGen g gs').gens := by
  intro y hy
  obtain ⟨i, hi, rfl⟩ := Array.mem_iff_getElem.mp hy
  by_cases hg : i = g
  · subst hg
    have : (s.setGen i gs').gens[i]? = some gs' := by
      unfold Shared.setGen at hi ⊢
      simp at hi
      simp [hi]
    rw [Array.getElem?_eq_getElem hi] at this
    rw [Option.some.inj this]; exact hb
  · have := setGen_ne (s := s) (gs' := gs') hg
    rw [Array.getElem?_eq_getElem hi] at this
    exact h _ (Array.mem_of_getElem? this.symm)
theorem like_gen {s₁ : Shared} {g : Nat} {gs' : GenState} (x : Like sb s) (hg : sb.gens.size ≤ g) (y : Like (s.setGen g .running) s₁) (hb : gs'.bare = true) : Like sb (s₁.setGen g gs') := by
  refine ⟨y.os.trans x.os, fun h => bare_setGen (y.gens (bare_setGen (x.gens h) rfl)) hb, fun i gg e => ?_⟩
  have hi : i ≠ g := Nat.ne_of_lt (Nat.lt_of_lt_of_le (Array.getElem?_eq_some_iff.mp e).1 hg)
  rw [setGen_ne hi]
  exact y.kg i gg (by rw [setGen_ne hi]; exact x.kg i gg e)
noncomputable def GSt (w : World) (A : Around) (mg mb : Str → Option Value) (B : Heap) (a : Addr) (xs : List Value) (ruler : List Nat) (Lg I : Addr) (oL oI : Obj) (k : Nat) (gs : GenState) : Prop :=
  GHyp w mg mb B Lg I a xs ruler ∧ ¬ Hard oL ∧ ¬ Hard oI ∧ ∀ s'', GRes B a xs s''.heap → s''.heap.get? Lg = some oL → s''.heap.get? I = some oI → gs.Goes (model PR w) A (GR ruler Lg I) (GY B a xs ruler Lg I) (40 - k) (.send .none) s''
theorem soft_zip {f0 f1 : Value} {it kp : Addr} (h1 : ∃ b, f1 = .bool b) : ¬ Hard (zipO f0 f1 it kp) := fun hh => by
  obtain ⟨b, rfl⟩ := h1
  rcases hh with ⟨_, hh⟩ | ⟨_, hh⟩ | ⟨ws, c, t, hh, h2⟩
  · cases hh
  · cases hh
  · cases hh; cases h2
theorem RI.next {n k : Nat} {h' : Heap} {ri : Addr} (e : IsRangeIter h' ri (0 + (k : Int) * 1 + 1) ((n : Int) - k - 1) 1) : ∃ o, h'.get? ri = some o ∧ RI 0 1 n (k + 1) o := by
  have e1 : 0 + (k : Int) * 1 + 1 = 0 + ((k + 1 : Nat) : Int) * 1 := by push_cast; first | exact rfl | lia | omega
  have e2 : (n : Int) - (k : Int) - 1 = (n : Int) - ((k + 1 : Nat) : Int) := by push_cast; first | lia | omega
  rw [e1, e2] at e
  exact ⟨_, e, rfl⟩
theorem zip_d5 {Da z kp it ri ge Lg L I : Addr} {ys : List Value} {m : Nat} {b1 : Bool} {k : Nat} {tk : Tok} {k1 v2 : Value} {n3 n5 : Nat} {o2 og oL' oLd oI' : Obj} {s4 : Shared} {h5 : Heap}
    (D4 : Act B sb C [] ((I, oI') :: Nz Da z kp it ri ge Lg L ys m .ellipsis (.bool b1) (.int (0 + (k : Int) * 1) tk) k1 n3 o2 og oL' oLd) T0 s4)
    (hk5 : h5.get? kp = some (tupO #[.int (0 + (k : Int) * 1) tk, v2] n5)) (hz5 : h5.get? z = some (zipO (rawInt s4.heap.objs.size) (.bool false) it kp)) (hT5 : h5.get? s4.heap.objs.size = some (tupO #[.int (0 + (k : Int) * 1) tk, v2] 0))
    (k5 : ∀ b o, b ≠ kp → b ≠ z → s4.heap.get? b = some o → h5.get? b = some o) :
    Act B sb C [] ((s4.heap.objs.size, tupO #[.int (k : Int) tk, v2] 0) :: (I, oI') :: Nz Da z kp it ri ge Lg L ys m (rawInt s4.heap.objs.size) (.bool false) (.int (k : Int) tk) v2 n5 o2 og oL' oLd) T0 { s4 with heap := h5 } := by
  have e0 : (0 : Int) + (k : Int) * 1 = (k : Int) := by first | decide | assumption | exact a1 ‹_› | exact a2 ‹_› | exact a3 ‹_› (by decide) | exact dl ‹_› | exact ee ‹_› ‹_› | lia | omega
  rw [e0] at D4 hk5 hT5
  have t5 : TabOk h5 := D4.hp.tab.ext (X := [kp, z]) (fun b o hb e => k5 b o (fun q => hb (by rw [q]; exact .head _)) (fun q => hb (by rw [q]; exact .tail _ (.head _))) e)
    (fun q => by
      rcases List.mem_cons.mp q with q | q
      · exact D4.hp.n102 (p := (kp, _)) (List.mem_of_getElem? (i := 3) rfl) q.symm
      · exact D4.hp.n102 (p := (z, _)) (List.mem_of_getElem? (i := 2) rfl) (List.mem_singleton.mp q).symm)
    fun b hb o e => by
      rcases List.mem_cons.mp hb with rfl | hb
      · rw [D4.at 3 rfl] at e; cases e; exact hard_seq rfl
      · rw [List.mem_singleton.mp hb, D4.at 2 rfl] at e; cases e; exact soft_zip ⟨_, rfl⟩
  have H5 := D4.hp.renew 3 2 rfl rfl (by decide) (fun c oc _ h2 h3 e => k5 c oc h2 h3 e) hk5 hz5 t5
  refine ⟨H5.more ⟨Nat.le_trans D4.hp.hl (Nat.le_of_lt D4.hp.ltL), Nat.ne_of_gt D4.hp.ltL⟩ (fun p hp => ?_) hT5, D4.like.os, D4.like.gens, D4.like.kg⟩
  have : p.1 ∈ List.map (fun q : Addr × Obj => q.1) _ := List.mem_map_of_mem hp
  rw [map_set (o := zipO .ellipsis (.bool b1) it kp) (by rfl), map_set (o := tupO #[.int (k : Int) tk, k1] n3) (by rfl)] at this
  obtain ⟨q, hq, e⟩ := List.mem_map.mp this
  rw [← e]; exact D4.hp.lt hq
theorem zip_go {Da z kp it ri ge Lg L I a : Addr} {xs ys : List Value} {ruler : List Nat} {m : Nat} {b1 : Bool} {k0 k1 nm qn : Value} {n2 g k : Nat} {o oL oLd oI : Obj} {gs : GenState} (G : Gnd w mg mb B) (hh : A.handled = none) (hroom : A.depth < recursionLimit)
    (D : Act B sb C [] ((I, oI) :: Nz Da z kp it ri ge Lg L ys m .none (.bool b1) k0 k1 n2 o (genO g nm qn) oL oLd) T0 s) (ho : RI 0 1 16 k o) (hlis : sb.heap.IsList a xs.toArray) (ha2 : a ≠ 102) (hgs : s.gens[g]? = some gs) (hgz : sb.gens.size ≤ g)
    (hS : GSt w A.in1.in1 mg mb B a xs ruler Lg I oL oI k gs)
    {Q : Option Value → Shared → Prop}
    (hgo : ∀ T x t u s₁ I oI' oL' o' n2' gs', k < 16 → gval ruler none k = some x → RI 0 1 16 (k + 1) o' → s₁.gens[g]? = some gs' → GSt w A.in1.in1 mg mb B a xs ruler Lg I oL' oI' (k + 1) gs' →
      Act B sb C [] ((T, tupO #[.int (k : Int) u, .int (x : Int) t] 0) :: (I, oI') :: Nz Da z kp it ri ge Lg L ys m (rawInt T) (.bool false) (.int (k : Int) u) (.int (x : Int) t) n2' o' (genO g nm qn) oL' oLd) T0 s₁ → Q (some (.ref T)) s₁)
    (hend : ∀ s₁, (16 ≤ k ∨ gval ruler none k = none) → Act B sb C [] [(Da, lst ys m), (L, oLd)] T0 s₁ → Q none s₁) :
    wpAny (model PR w) A (pyNext (.ref z)) Q no s := by
  obtain ⟨_, _, _, T⟩ := G.T
  have hT : s.TypeIs (.ref z) "zip" := ⟨_, D.at 2 rfl, rfl⟩
  have hzk : z ≠ kp := ord_ne D.hp.ord (i := 2) (j := 3) rfl rfl (by decide)
  unfold pyNext
  refine wpAny_bind (wpAny_attempt (wpAny_callSpecial?_slot (name := Str.ofString "__next__") hT F.slot_zip_next
    (wpAny_call_entry F.slot_zip_next hT F.entry_zip_next (zip_next (D.at 2 rfl) (D.at 4 rfl) (D.at 3 rfl) hzk ?_) (F.args_zip_next_1 _))))
  intro h1 hz1 hs1
  have D1 := D.to' (D.hp.turn 2 rfl (soft_zip ⟨_, rfl⟩) (fun b ob hb e => (hs1.2 b hb).trans e) hz1)
  have stop : ∀ (s₁ : Shared) (e : Addr), StopAt s₁.heap e → (16 ≤ k ∨ gval ruler none k = none) → Act B sb C [] [(Da, lst ys m), (L, oLd)] T0 s₁ →
      wpAny (model PR w) A (do if ← isInstance (.ref e) (.type "StopIteration") then pure none else throw (.ref e)) Q no s₁ := fun s₁ e ⟨oe, he, hce⟩ hc D' =>
    wpAny_bind (wpAny_isInstance (T := "StopIteration") (b := true) ⟨oe, he, hce⟩ isSubtype_stop (wpAny_pure (hend _ hc D')))
  by_cases hk16 : k < 16
  · subst ho
    refine nx_range_item (D1.at 5 rfl) (by first | decide | assumption | exact a1 ‹_› | exact a2 ‹_› | exact a3 ‹_› (by decide) | exact dl ‹_› | exact ee ‹_› ‹_› | lia | omega) fun h2 hit2 hs2 => ?_
    obtain ⟨o2, hit2, ho2⟩ := RI.next hit2
    have D2 := D1.to (D1.hp.turn 5 rfl (hard_int rfl rfl) (fun b ob hb e => (hs2.2 b hb).trans e) hit2) (s.toks + 1)
    refine ⟨n2, D2.at 3 rfl, fun h3 n3 hk3 hs3 => ?_⟩
    have D3 := D2.to' (D2.hp.turn 3 rfl (hard_seq rfl) (fun b ob hb e => (hs3.2 b hb).trans e) hk3)
    have hres : GRes B a xs h3 := ⟨D3.hp.base, D3.hp.tab, let ⟨ol, el, r⟩ := hlis; ⟨ol, D3.ext a ol ha2 List.not_mem_nil el, r⟩⟩
    have ek : 40 - k = (39 - k) + 1 := by first | with_reducible exact s38 ‹_› | lia | omega
    obtain ⟨Hy, so1, so2, hgoes⟩ := hS
    have hg0 := hgoes (({ s with heap := h3, toks := s.toks + 1 } : Shared).setGen g .running) hres (D3.at 7 rfl) (D3.at 0 rfl)
    rw [ek] at hg0
    refine nx_gen (P := GP ruler Lg I) (Y := GY B a xs ruler Lg I) (n := (39 - k) + 1) (gs := _) (g := g) hh ((T.nolimit).keeps D3.hp.base) hroom ⟨_, nm, qn, D3.at 6 rfl, rfl, rfl, rfl⟩ hgs hg0 (fun v s₁ gs' hb hy => ?_) fun s₁ hp h5 e k5 he => ?_
    · obtain ⟨x, t, oL', oI', hval, rfl, chg, e1, e2, soft1, soft2, hnext⟩ := hy
      rw [show 39 - (39 - k + 1 - 1) = k by first | with_reducible exact t3 ‹_› | lia | omega] at hval
      have LK := like_gen D3.like hgz chg.like hb
      have D4 : Act B sb C [] ((I, oI') :: Nz Da z kp it ri ge Lg L ys m .ellipsis (.bool b1) (.int (0 + (k : Int) * 1) s.toks) k1 n3 o2 (genO g nm qn) oL' oLd) T0 (s₁.setGen g gs') := ⟨D3.hp.renew 7 0 rfl rfl (by decide) chg.keep e1 e2 chg.tab, LK⟩
      refine ⟨n3, D4.at 3 rfl, D4.at 2 rfl, fun h5 n5 hk5 hz5 hT5 k5 => ?_⟩
      have D5 := zip_d5 D4 hk5 hz5 hT5 k5
      exact wpAny_pure (hgo _ _ _ _ _ _ _ _ _ _ _ hk16 hval ho2 (setGen_get (chg.like.kg g .running (setGen_get hgs))) ⟨Hy, soft1, soft2, fun s'' g1 g2 g3 => by
        have := hnext (by first | with_reducible exact t4 ‹_› | lia | omega) s'' g1 g2 g3
        rw [show 40 - (k + 1) = 39 - k by first | decide | assumption | exact a1 ‹_› | exact a2 ‹_› | exact a3 ‹_› (by decide) | exact dl ‹_› | exact ee ‹_› ‹_› | lia | omega]
        exact this⟩ D5)
    · obtain ⟨hval, chg⟩ := hp
      rw [show 40 - (39 - k + 1) = k by first | with_reducible exact t2 ‹_› | lia | omega] at hval
      have LK := like_gen (gs' := .finished) D3.like hgz chg.like rfl
      have hz4 : s₁.heap.get? z = some (zipO .ellipsis (.bool b1) it kp) := chg.keep _ _ (D3.hp.n102 (p := (z, _)) (List.mem_of_getElem? (i := 2) rfl)) (ord_ne D3.hp.ord (i := 2) (j := 7) rfl rfl (by decide)) (ord_ne D3.hp.ord (i := 2) (j := 0) rfl rfl (by decide)) (D3.at 2 rfl)
      refine ⟨k5 _ _ hz4, fun h6 hs6 hz6 => ?_⟩
      refine stop _ _ ?_ (.inr hval) ?_
      · obtain ⟨oe, he, hce⟩ := he
        refine ⟨oe, (hs6.2 e fun q => ?_).trans he, hce⟩
        rw [q] at he
        rw [k5 _ _ hz4] at he
        cases he; exact absurd (Value.type.inj hce) (by decide)
      · have H := (D3.sub (N' := [(Da, lst ys m), (L, oLd)]) (List.Sublist.cons _ (List.Sublist.cons_cons _ (List.Sublist.cons _ (List.Sublist.cons _ (List.Sublist.cons _ (List.Sublist.cons _ (List.Sublist.cons _ (List.Sublist.cons _ (List.Sublist.cons_cons _ List.Sublist.slnil)))))))))).hp.fade (h' := h6) [Lg, I, z] (by intro b hb; rcases List.mem_cons.mp hb with rfl | hb; exact (⟨(D3.hp.ownAt 7 rfl).1, (D3.hp.ownAt 7 rfl).2, (by intro p hp; rcases List.mem_cons.mp hp with rfl | hp; exact ord_ne D3.hp.ord (i := 1) (j := 7) rfl rfl (by decide); rw [List.mem_singleton.mp hp]; exact ord_ne D3.hp.ord (i := 8) (j := 7) rfl rfl (by decide))⟩); rcases List.mem_cons.mp hb with rfl | hb; exact (⟨(D3.hp.ownAt 0 rfl).1, (D3.hp.ownAt 0 rfl).2, (by intro p hp; rcases List.mem_cons.mp hp with rfl | hp; exact ord_ne D3.hp.ord (i := 1) (j := 0) rfl rfl (by decide); rw [List.mem_singleton.mp hp]; exact ord_ne D3.hp.ord (i := 8) (j := 0) rfl rfl (by decide))⟩); rw [List.mem_singleton.mp hb]; exact (⟨(D3.hp.ownAt 2 rfl).1, (D3.hp.ownAt 2 rfl).2, (by intro p hp; rcases List.mem_cons.mp hp with rfl | hp; exact ord_ne D3.hp.ord (i := 1) (j := 2) rfl rfl (by decide); rw [List.mem_singleton.mp hp]; exact ord_ne D3.hp.ord (i := 8) (j := 2) rfl rfl (by decide))⟩)) (fun c oc h1 h2 e => (hs6.2 c (fun q => h2 (by rw [q]; exact .tail _ (.tail _ (.head _))))).trans (k5 _ _ (chg.keep c oc h1 (fun q => h2 (by rw [q]; exact .head _)) (fun q => h2 (by rw [q]; exact .tail _ (.head _))) e))) ?_
        · exact ⟨H, LK.os, LK.gens, LK.kg⟩
        · have t5 : TabOk h5 := chg.tab.ext (X := []) (fun b o _ e => k5 b o e) List.not_mem_nil fun _ hb => (nomatch hb)
          exact t5.ext (X := [z]) (fun b o hb e => (hs6.2 b (fun q => hb (by rw [q]; exact .head _))).trans e) (fun q => D3.hp.n102 (p := (z, _)) (List.mem_of_getElem? (i := 2) rfl) (List.mem_singleton.mp q).symm) fun b hb o e => by
            rw [List.mem_singleton.mp hb, k5 _ _ hz4] at e; cases e; exact soft_zip ⟨_, rfl⟩
  · subst ho
    refine nx_range_end hh (D1.at 5 rfl) (by first | decide | assumption | exact a1 ‹_› | exact a2 ‹_› | exact a3 ‹_› (by decide) | exact dl ‹_› | exact ee ‹_› ‹_› | lia | omega) fun h2 e k2 he => ?_
    refine ⟨k2 _ _ hz1, fun h6 hs6 hz6 => ?_⟩
    refine stop _ _ ?_ (.inl (Nat.le_of_not_lt hk16)) ?_
    · obtain ⟨oe, he, hce⟩ := he
      refine ⟨oe, (hs6.2 e fun q => ?_).trans he, hce⟩
      rw [q, k2 _ _ hz1] at he
      cases he; exact absurd (Value.type.inj hce) (by decide)
    · have H := (D1.sub (N' := [(Da, lst ys m), (L, oLd)]) (List.Sublist.cons _ (List.Sublist.cons_cons _ (List.Sublist.cons _ (List.Sublist.cons _ (List.Sublist.cons _ (List.Sublist.cons _ (List.Sublist.cons _ (List.Sublist.cons _ (List.Sublist.cons_cons _ List.Sublist.slnil)))))))))).hp.fade (h' := h6) [z] (by intro b hb; rw [List.mem_singleton.mp hb]; exact (⟨(D1.hp.ownAt 2 rfl).1, (D1.hp.ownAt 2 rfl).2, (by intro p hp; rcases List.mem_cons.mp hp with rfl | hp; exact ord_ne D1.hp.ord (i := 1) (j := 2) rfl rfl (by decide); rw [List.mem_singleton.mp hp]; exact ord_ne D1.hp.ord (i := 8) (j := 2) rfl rfl (by decide))⟩)) (fun c oc h1 h2 e => (hs6.2 c (fun q => h2 (by rw [q]; exact .head _))).trans (k2 _ _ e)) ?_
      · exact ⟨H, D1.like.os, D1.like.gens, D1.like.kg⟩
      · have t5 : TabOk h2 := D1.hp.tab.ext (X := []) (fun b o _ e => k2 b o e) List.not_mem_nil fun _ hb => (nomatch hb)
        exact t5.ext (X := [z]) (fun b o hb e => (hs6.2 b (fun q => hb (by rw [q]; exact .head _))).trans e) (fun q => D1.hp.n102 (p := (z, _)) (List.mem_of_getElem? (i := 2) rfl) (List.mem_singleton.mp q).symm) fun b hb o e => by
          rw [List.mem_singleton.mp hb, k2 _ _ hz1] at e; cases e; exact soft_zip ⟨_, rfl⟩
theorem zip_first {Da z kp it ri ge Lg L I a : Addr} {xs ys : List Value} {ruler : List Nat} {m : Nat} {b1 : Bool} {k0 k1 nm qn : Value} {n2 g k : Nat} {o oL oLd oI : Obj} {gs : GenState} (G : Gnd w mg mb B) (hh : A.handled = none) (hroom : A.depth < recursionLimit)
    (D : Act B sb C [] (Nz Da z kp it ri ge Lg L ys m .none (.bool b1) k0 k1 n2 o (genO g nm qn) oL oLd) T0 s) (ho : RI 0 1 16 k o) (hlis : sb.heap.IsList a xs.toArray) (ha2 : a ≠ 102) (hgs : s.gens[g]? = some gs) (hgz : sb.gens.size ≤ g)
    (hk : k = 0) (hgf : gs = .fresh (.func gBody (gEnv Lg))) (hns : ∀ h : Heap, h.get? Lg = some oL → h.Ns Lg (fun x => [(Str.ofString "grouping", Value.ref a)].lookup x)) (hp : Nats xs ruler) (hlen : ruler.length ≤ 16) (hz0 : ruler[0]? ≠ some 0) (haL : a < Lg)
    {Q : Option Value → Shared → Prop}
    (hgo : ∀ T x t u s₁ I oI' oL' o' n2' gs', k < 16 → gval ruler none k = some x → RI 0 1 16 (k + 1) o' → s₁.gens[g]? = some gs' → GSt w A.in1.in1 mg mb B a xs ruler Lg I oL' oI' (k + 1) gs' →
      Act B sb C [] ((T, tupO #[.int (k : Int) u, .int (x : Int) t] 0) :: (I, oI') :: Nz Da z kp it ri ge Lg L ys m (rawInt T) (.bool false) (.int (k : Int) u) (.int (x : Int) t) n2' o' (genO g nm qn) oL' oLd) T0 s₁ → Q (some (.ref T)) s₁)
    (hend : ∀ s₁, (16 ≤ k ∨ gval ruler none k = none) → Act B sb C [] [(Da, lst ys m), (L, oLd)] T0 s₁ → Q none s₁) :
    wpAny (model PR w) A (pyNext (.ref z)) Q no s := by
  obtain ⟨_, _, _, T⟩ := G.T
  have hT : s.TypeIs (.ref z) "zip" := ⟨_, D.at 1 rfl, rfl⟩
  have hzk : z ≠ kp := ord_ne D.hp.ord (i := 1) (j := 2) rfl rfl (by decide)
  unfold pyNext
  refine wpAny_bind (wpAny_attempt (wpAny_callSpecial?_slot (name := Str.ofString "__next__") hT F.slot_zip_next
    (wpAny_call_entry F.slot_zip_next hT F.entry_zip_next (zip_next (D.at 1 rfl) (D.at 3 rfl) (D.at 2 rfl) hzk ?_) (F.args_zip_next_1 _))))
  intro h1 hz1 hs1
  have D1 := D.to' (D.hp.turn 1 rfl (soft_zip ⟨_, rfl⟩) (fun b ob hb e => (hs1.2 b hb).trans e) hz1)
  have stop : ∀ (s₁ : Shared) (e : Addr), StopAt s₁.heap e → (16 ≤ k ∨ gval ruler none k = none) → Act B sb C [] [(Da, lst ys m), (L, oLd)] T0 s₁ →
      wpAny (model PR w) A (do if ← isInstance (.ref e) (.type "StopIteration") then pure none else throw (.ref e)) Q no s₁ := fun s₁ e ⟨oe, he, hce⟩ hc D' =>
    wpAny_bind (wpAny_isInstance (T := "StopIteration") (b := true) ⟨oe, he, hce⟩ isSubtype_stop (wpAny_pure (hend _ hc D')))
  by_cases hk16 : k < 16
  · subst ho
    refine nx_range_item (D1.at 4 rfl) (by first | decide | assumption | exact a1 ‹_› | exact a2 ‹_› | exact a3 ‹_› (by decide) | exact dl ‹_› | exact ee ‹_› ‹_› | lia | omega) fun h2 hit2 hs2 => ?_
    obtain ⟨o2, hit2, ho2⟩ := RI.next hit2
    have D2 := D1.to (D1.hp.turn 4 rfl (hard_int rfl rfl) (fun b ob hb e => (hs2.2 b hb).trans e) hit2) (s.toks + 1)
    refine ⟨n2, D2.at 2 rfl, fun h3 n3 hk3 hs3 => ?_⟩
    have D3 := D2.to' (D2.hp.turn 2 rfl (hard_seq rfl) (fun b ob hb e => (hs3.2 b hb).trans e) hk3)
    have hres : GRes B a xs h3 := ⟨D3.hp.base, D3.hp.tab, let ⟨ol, el, r⟩ := hlis; ⟨ol, D3.ext a ol ha2 List.not_mem_nil el, r⟩⟩
    have ek : 40 - k = (39 - k) + 1 := by first | with_reducible exact (t5 ‹_›).2.1 | lia | omega
    subst hgf
    have Hy : GHyp w mg mb B Lg h3.objs.size a xs ruler := ⟨G, Nat.le_trans D.hp.low (D.hp.ownAt 6 rfl).1, Nat.lt_of_lt_of_le D.hp.L2 (D.hp.ownAt 6 rfl).1, Heap.lt_size (D3.at 6 rfl), haL, ha2, hp, hlen⟩
    have hg0 := g_start Hy (A := A.in1.in1) hh (s := (({ s with heap := h3, toks := s.toks + 1 } : Shared).setGen g .running)) hres rfl (hns _ (D3.at 6 rfl)) rfl hz0
    obtain ⟨I, hI⟩ : ∃ I, I = h3.objs.size := ⟨_, rfl⟩
    rw [← hI] at hg0 Hy
    rw [show 40 = (39 - k) + 1 by first | with_reducible exact (t5 ‹_›).2.2 | lia | omega] at hg0
    refine nx_gen (P := GP ruler Lg I) (Y := GY B a xs ruler Lg I) (n := (39 - k) + 1) (gs := _) (g := g) hh ((T.nolimit).keeps D3.hp.base) hroom ⟨_, nm, qn, D3.at 5 rfl, rfl, rfl, rfl⟩ hgs hg0 (fun v s₁ gs' hb hy => ?_) fun s₁ hp h5 e k5 he => ?_
    · obtain ⟨x, t, oL', oI', hval, rfl, chg, e1, e2, soft1, soft2, hnext⟩ := hy
      rw [show 39 - (39 - k + 1 - 1) = k by first | with_reducible exact t3 ‹_› | lia | omega] at hval
      have LK := like_gen D3.like hgz chg.like hb
      have D4 : Act B sb C [] ((I, oI') :: Nz Da z kp it ri ge Lg L ys m .ellipsis (.bool b1) (.int (0 + (k : Int) * 1) s.toks) k1 n3 o2 (genO g nm qn) oL' oLd) T0 (s₁.setGen g gs') := by
        have H := D3.hp.renew1 6 rfl (fun c oc h1 h2 e => chg.keep c oc h1 h2 (fun q => by rw [q, hI] at e; exact absurd (Heap.lt_size e) (Nat.lt_irrefl _)) e) e1 chg.tab
        exact ⟨H.more (by rw [hI]; exact ⟨Nat.le_trans D3.hp.hl (Nat.le_of_lt D3.hp.ltL), Nat.ne_of_gt D3.hp.ltL⟩) (fun p hp => by
          have : p.1 ∈ List.map (fun q : Addr × Obj => q.1) _ := List.mem_map_of_mem hp
          rw [map_set (o := oL) (by rfl)] at this
          obtain ⟨q, hq, e⟩ := List.mem_map.mp this
          rw [← e, hI]; exact D3.hp.lt hq) e2, LK⟩
      refine ⟨n3, D4.at 3 rfl, D4.at 2 rfl, fun h5 n5 hk5 hz5 hT5 k5 => ?_⟩
      have D5 := zip_d5 D4 hk5 hz5 hT5 k5
      exact wpAny_pure (hgo _ _ _ _ _ _ _ _ _ _ _ hk16 hval ho2 (setGen_get (chg.like.kg g .running (setGen_get hgs))) ⟨Hy, soft1, soft2, fun s'' g1 g2 g3 => by
        have := hnext (by first | with_reducible exact (t5 ‹_›).1 | lia | omega) s'' g1 g2 g3
        rw [show 40 - (k + 1) = 39 - k by first | decide | assumption | exact a1 ‹_› | exact a2 ‹_› | exact a3 ‹_› (by decide) | exact dl ‹_› | exact ee ‹_› ‹_› | lia | omega]
        exact this⟩ D5)
    · obtain ⟨hval, chg⟩ := hp
      rw [show 40 - (39 - k + 1) = k by first | with_reducible exact t2 ‹_› | lia | omega] at hval
      have LK := like_gen (gs' := .finished) D3.like hgz chg.like rfl
      have hz4 : s₁.heap.get? z = some (zipO .ellipsis (.bool b1) it kp) := chg.keep _ _ (D3.hp.n102 (p := (z, _)) (List.mem_of_getElem? (i := 1) rfl)) (ord_ne D3.hp.ord (i := 1) (j := 6) rfl rfl (by decide)) (by rw [hI]; exact Nat.ne_of_lt (Heap.lt_size (D3.at 1 rfl))) (D3.at 1 rfl)
      refine ⟨k5 _ _ hz4, fun h6 hs6 hz6 => ?_⟩
      refine stop _ _ ?_ (.inr hval) ?_
      · obtain ⟨oe, he, hce⟩ := he
        refine ⟨oe, (hs6.2 e fun q => ?_).trans he, hce⟩
        rw [q] at he
        rw [k5 _ _ hz4] at he
        cases he; exact absurd (Value.type.inj hce) (by decide)
      · have H := (D3.sub (N' := [(Da, lst ys m), (L, oLd)]) (List.Sublist.cons_cons _ (List.Sublist.cons _ (List.Sublist.cons _ (List.Sublist.cons _ (List.Sublist.cons _ (List.Sublist.cons _ (List.Sublist.cons _ (List.Sublist.cons_cons _ List.Sublist.slnil))))))))).hp.fade (h' := h6) [Lg, I, z] (by intro b hb; rcases List.mem_cons.mp hb with rfl | hb; exact (⟨(D3.hp.ownAt 6 rfl).1, (D3.hp.ownAt 6 rfl).2, (by intro p hp; rcases List.mem_cons.mp hp with rfl | hp; exact ord_ne D3.hp.ord (i := 0) (j := 6) rfl rfl (by decide); rw [List.mem_singleton.mp hp]; exact ord_ne D3.hp.ord (i := 7) (j := 6) rfl rfl (by decide))⟩); rcases List.mem_cons.mp hb with rfl | hb; exact (by rw [hI]; exact ⟨Nat.le_trans D3.hp.hl (Nat.le_of_lt D3.hp.ltL), Nat.ne_of_gt D3.hp.ltL, by intro p hp; rcases List.mem_cons.mp hp with rfl | hp; exact Nat.ne_of_lt (Heap.lt_size (D3.at 0 rfl)); rw [List.mem_singleton.mp hp]; exact Nat.ne_of_lt (Heap.lt_size (D3.at 7 rfl))⟩); rw [List.mem_singleton.mp hb]; exact (⟨(D3.hp.ownAt 1 rfl).1, (D3.hp.ownAt 1 rfl).2, (by intro p hp; rcases List.mem_cons.mp hp with rfl | hp; exact ord_ne D3.hp.ord (i := 0) (j := 1) rfl rfl (by decide); rw [List.mem_singleton.mp hp]; exact ord_ne D3.hp.ord (i := 7) (j := 1) rfl rfl (by decide))⟩)) (fun c oc h1 h2 e => (hs6.2 c (fun q => h2 (by rw [q]; exact .tail _ (.tail _ (.head _))))).trans (k5 _ _ (chg.keep c oc h1 (fun q => h2 (by rw [q]; exact .head _)) (fun q => h2 (by rw [q]; exact .tail _ (.head _))) e))) ?_
        · exact ⟨H, LK.os, LK.gens, LK.kg⟩
        · have t5 : TabOk h5 := chg.tab.ext (X := []) (fun b o _ e => k5 b o e) List.not_mem_nil fun _ hb => (nomatch hb)
          exact t5.ext (X := [z]) (fun b o hb e => (hs6.2 b (fun q => hb (by rw [q]; exact .head _))).trans e) (fun q => D3.hp.n102 (p := (z, _)) (List.mem_of_getElem? (i := 1) rfl) (List.mem_singleton.mp q).symm) fun b hb o e => by
            rw [List.mem_singleton.mp hb, k5 _ _ hz4] at e; cases e; exact soft_zip ⟨_, rfl⟩
  · exact absurd (show k < 16 by rw [hk]; decide) hk16
end
end
section
open Builtin Builtin.SmallTypes
noncomputable def szs (ruler : List Nat) : Nat → List Nat
  | 0 => []
  | k + 1 => match gval ruler none k with
    | some x => szs ruler k ++ [x]
    | none => szs ruler k
theorem gval_none : ∀ (l : List Nat) (last : Option Nat) (k : Nat), gval l last k = none → gval l last (k + 1) = none
  | [], _, _, _ => rfl
  | x :: r, last, k, h => by
    unfold gval at h ⊢
    split at h
    · rename_i h1; rw [if_pos h1]
    · rename_i h1
      rw [if_neg h1]
      split at h
      · rename_i h2; rw [if_pos h2]; exact h
      · rename_i h2
        rw [if_neg h2]
        cases k with
        | zero => cases h
        | succ k => exact gval_none r (some x) k h
theorem szs_end {ruler : List Nat} {k : Nat} (h : gval ruler none k = none) : ∀ j, szs ruler (k + j) = szs ruler k ∧ gval ruler none (k + j) = none
  | 0 => ⟨rfl, h⟩
  | j + 1 => by
    obtain ⟨h1, h2⟩ := szs_end h j
    refine ⟨?_, gval_none _ _ _ h2⟩
    show (match gval ruler none (k + j) with | some x => szs ruler (k + j) ++ [x] | none => szs ruler (k + j)) = _
    rw [h2]; exact h1
theorem szs_len (ruler : List Nat) : ∀ k, (szs ruler k).length ≤ k
  | 0 => Nat.le_refl _
  | k + 1 => by
    have := szs_len ruler k
    rewrite [szs]
    split
    · rw [List.length_append]; simp; first | assumption | lia | omega
    · first | with_reducible exact Nat.le_succ_of_le ‹_› | lia | omega
theorem range_n102 {h : Heap} {r : Addr} {x y c : Int} {t u v : Tok} (e : IsRange h r x y c t u v) (tb : TabOk h) : r ≠ 102 := by
  intro q
  subst q
  have e : h.get? 102 = _ := e
  rcases tb with e' | ⟨_, _, _, _, e', _⟩ <;>
  · rw [e'] at e
    have := congrArg (fun o : Option Obj => o.map (·.cls)) e
    simp only [Option.map_some] at this
    exact absurd (Option.some.inj this) (by intro h; cases h)
theorem Like.size {s s' : Shared} (x : Like s s') : s.gens.size ≤ s'.gens.size := by
  cases h : s.gens.size with
  | zero => exact Nat.zero_le _
  | succ n =>
    have hn : n < s.gens.size := by first | decide | assumption | exact a1 ‹_› | exact a2 ‹_› | exact a3 ‹_› (by decide) | exact dl ‹_› | exact ee ‹_› ‹_› | lia | omega
    have := x.kg n _ (Array.getElem?_eq_getElem hn)
    have := (Array.getElem?_eq_some_iff.mp this).1
    first | assumption | lia | omega
section
variable {w : World} {mg mb : Str → Option Value} {B : Heap} {A : Around} {s₀ s : Shared} {R : Result → Shared → Prop} {L : Addr} {l : List (Str × Value)} {N : List (Addr × Obj)} {env : Env}
theorem comp_frame2 {e : Expr} {scope : Scope} {cl : List (Str × Addr)} {use : Option (Value → Sem Unit)} {Q : Value → Shared → Prop} {z : Addr} (D : Act B s₀ L l N T0 s) (hL : L = s₀.heap.objs.size)
    (hit : ∀ Q' : Value → Shared → Prop, Q' (.ref z) s → wpAny (model PR w) A (pyIter (.ref z)) Q' no s)
    (hcell : ∀ y ∈ scope.names, y.2 ≠ .cell) (hkind : scope.kind = .function)
    (h : ∀ s' oL m, s'.gens = s.gens → (∀ h : Heap, h.get? L = some oL → h.Ns L m) → (∀ x v, l.lookup x = some v → m x = some v) → Act B s₀ (s.heap.objs.size + 1) [] ((s.heap.objs.size, lst [] 0) :: (N ++ [(L, oL)])) T0 s' →
      codeAny (model PR w) A (.compStart e 0 (.ref z) (.ref s.heap.objs.size) (compEnvC scope cl (s.heap.objs.size + 1) env)) (compPost (model PR w) A no use Q (.ref s.heap.objs.size) (s.heap.objs.size + 1)) s') :
    CompTail w A env e scope cl use Q (.ref z) s := by
  refine hit _ ?_
  refine wpAny_newObj_type (wpAny_newFunctionEnv hcell (by intro y hy; simp at hy) (fun h₁ hns₁ hsb₁ => ?_) hkind)
  dsimp only at hns₁ hsb₁ ⊢
  have z2 : (s.heap.push { cls := .type "list", dict := none, data := .seq ([] : List Value).toArray }).objs.size = s.heap.objs.size + 1 := Heap.size_push ..
  have k : ∀ b o, (s.heap.push (lst [] 0)).get? b = some o → h₁.get? b = some o := fun b o e => hsb₁.extBut b o (Nat.ne_of_lt (Heap.lt_size e)) (Heap.get?_push_of_some _ e)
  have k0 : ∀ b o, s.heap.get? b = some o → h₁.get? b = some o := fun b o e => k b o (Heap.get?_push_of_some _ e)
  rw [z2] at hns₁
  have D1 := D.to' (D.hp.keeps k0)
  obtain ⟨m, ⟨oL, es, ep, e1, e2, e3, e4⟩, hm⟩ := D1.hp.ns
  have hLs := D.hp.ltL
  have e1' := h { s with heap := h₁, toks := s.toks + ([] : List (Str × Value)).length } oL m rfl (fun h' q => ⟨oL, es, ep, q, e2, e3, e4⟩) hm ⟨{ D1.hp with
    ns := ⟨_, hns₁, fun x v e => by cases e⟩
    hl := Nat.le_trans D.hp.hl (Nat.le_trans (Nat.le_of_lt hLs) (Nat.le_succ _))
    get := ?_
    own := ?_
    ord := ?_
    kept := Kept.t0
    fact := trivial }, D1.like⟩
  · show codeAny _ _ (.compStart e 0 _ (.ref s.heap.objs.size) (compEnvC scope cl (s.heap.push { cls := .type "list", dict := none, data := .seq ([] : List Value).toArray }).objs.size env)) (compPost _ _ _ _ _ _ (s.heap.push { cls := .type "list", dict := none, data := .seq ([] : List Value).toArray }).objs.size) _
    rw [z2]
    exact e1'
  · intro p hp
    rcases List.mem_cons.mp hp with rfl | hp
    · exact k _ _ (Heap.get?_push_size _ rfl)
    · rcases List.mem_append.mp hp with hp | hp
      · exact D1.hp.get p hp
      · rw [List.mem_singleton.mp hp]; exact e1
  · intro p hp
    rcases List.mem_cons.mp hp with rfl | hp
    · exact ⟨Nat.le_trans D.hp.hl (Nat.le_of_lt hLs), Nat.ne_of_lt (Nat.lt_succ_self _)⟩
    · rcases List.mem_append.mp hp with hp | hp
      · exact ⟨(D.hp.own p hp).1, Nat.ne_of_lt (Nat.lt_succ_of_lt (D.hp.lt hp))⟩
      · rw [List.mem_singleton.mp hp]; exact ⟨D.hp.hl, Nat.ne_of_lt (Nat.lt_succ_of_lt hLs)⟩
  · rw [List.map_cons, List.map_append]
    refine List.pairwise_cons.mpr ⟨fun b hb => ?_, List.pairwise_append.mpr ⟨D.hp.ord, List.pairwise_singleton .., fun x hx y hy => ?_⟩⟩
    · rcases List.mem_append.mp hb with hb | hb
      · obtain ⟨p, hp, rfl⟩ := List.mem_map.mp hb; exact D.hp.lt hp
      · rw [List.mem_singleton.mp hb]; exact hLs
    · obtain ⟨p, hp, rfl⟩ := List.mem_map.mp hx
      rw [List.mem_singleton.mp hy]
      have := D.hp.own p hp
      rw [hL]
      exact Nat.lt_of_le_of_ne this.1 (by rw [← hL]; exact Ne.symm this.2)
theorem comp_pair {elt iter : Expr} {elts : List Expr} {x1} {tp : Pos} {scope : Scope} {pos : Pos} {it acc : Value} {env : Env} {R : Result → Shared → Prop} (I : Nat → Shared → Prop)
    (hit : ∀ Q' : Value → Shared → Prop, Q' it s → wpAny (model PR w) A (pyIter it) Q' no s)
    (n : Nat) (h : I n s)
    (turn : ∀ n s, I n s → wpAny (model PR w) A (pyNext it) (fun r s₁ => match r with
      | none => R (.ok .next) s₁
      | some v => wpAny (model PR w) A (letOwnedTupleGo (.Tuple elts x1 tp) it v) (fun _ s₁' => wpAny (model PR w) A (assign (.Tuple elts x1 tp) env v) (fun _ s₂ =>
          wpAny (model PR w) A (eval elt env) (fun x s₄ =>
              wpAny (model PR w) A (call (.builtin "list.append") [acc, x]) (fun _ s₅ => ∃ m, m < n ∧ I m s₅) no s₄) no s₂) no s₁') no s₁) no s) :
    codeAny (model PR w) A (.compStart (.ListComp elt [⟨.Tuple elts x1 tp, iter, [], 0⟩] scope pos) 0 it acc env) R s := by
  have loop : codeAny (model PR w) A (.compLoop (.ListComp elt [⟨.Tuple elts x1 tp, iter, [], 0⟩] scope pos) 0 it acc env) R s := by
    refine LCp.codeAny_compLoop_pair I (fun n s hI => ?_) n h
    refine wpAny_mono (turn n s hI) (fun r s₁ h₁ => ?_) fun _ _ x => x.elim
    cases r with
    | none => exact h₁
    | some v => exact wpAny_mono h₁ (fun _ s₂ h₂ => wpAny_mono h₂ (fun _ s₃ h₃ => wpAny_mono h₃ (fun _ s₄ h₄ => wpAny_mono h₄ (fun _ _ x => x) fun _ _ x => x.elim) fun _ _ x => x.elim) fun _ _ x => x.elim) fun _ _ x => x.elim
  exact codeAny_compStart_list loop (wpAny_mono (hit _ loop) (fun _ _ x => x) fun _ _ x => x.elim)
theorem zip_turn {sb : Shared} {C Da z kp it ri ge Lg L a : Addr} {xs ys : List Value} {ruler : List Nat} {m : Nat} {b1 : Bool} {k0 k1 nm qn : Value} {n2 g k : Nat} {o oL oL0 oLd : Obj} {gs : GenState} (G : Gnd w mg mb B) (hh : A.handled = none) (hroom : A.depth < recursionLimit)
    (hcase : (k = 0 ∧ gs = .fresh (.func gBody (gEnv Lg)) ∧ oL = oL0 ∧ Act B sb C [] (Nz Da z kp it ri ge Lg L ys m .none (.bool b1) k0 k1 n2 o (genO g nm qn) oL oLd) T0 s) ∨
      ∃ I oI, GSt w A.in1.in1 mg mb B a xs ruler Lg I oL oI k gs ∧ Act B sb C [] ((I, oI) :: Nz Da z kp it ri ge Lg L ys m .none (.bool b1) k0 k1 n2 o (genO g nm qn) oL oLd) T0 s)
    (ho : RI 0 1 16 k o) (hlis : sb.heap.IsList a xs.toArray) (ha2 : a ≠ 102) (hgs : s.gens[g]? = some gs) (hgz : sb.gens.size ≤ g)
    (hns : ∀ h : Heap, h.get? Lg = some oL0 → h.Ns Lg (fun x => [(Str.ofString "grouping", Value.ref a)].lookup x)) (hp : Nats xs ruler) (hlen : ruler.length ≤ 16) (hz0 : ruler[0]? ≠ some 0) (haL : a < Lg)
    {Q : Option Value → Shared → Prop}
    (hgo : ∀ T x t u s₁ I oI' oL' o' n2' gs', k < 16 → gval ruler none k = some x → RI 0 1 16 (k + 1) o' → s₁.gens[g]? = some gs' → GSt w A.in1.in1 mg mb B a xs ruler Lg I oL' oI' (k + 1) gs' →
      Act B sb C [] ((T, tupO #[.int (k : Int) u, .int (x : Int) t] 0) :: (I, oI') :: Nz Da z kp it ri ge Lg L ys m (rawInt T) (.bool false) (.int (k : Int) u) (.int (x : Int) t) n2' o' (genO g nm qn) oL' oLd) T0 s₁ → Q (some (.ref T)) s₁)
    (hend : ∀ s₁, (16 ≤ k ∨ gval ruler none k = none) → Act B sb C [] [(Da, lst ys m), (L, oLd)] T0 s₁ → Q none s₁) :
    wpAny (model PR w) A (pyNext (.ref z)) Q no s := by
  rcases hcase with ⟨hi0, hgf, hol, D6⟩ | ⟨I, oI, hS, D6⟩
  · subst hol
    exact zip_first (I := 0) (oI := lst [] 0) G hh hroom D6 ho hlis ha2 hgs hgz hi0 hgf hns hp hlen hz0 haL hgo hend
  · exact zip_go G hh hroom D6 ho hlis ha2 hgs hgz hS hgo hend
theorem sizes_spec (G : Gnd w mg mb B) (O : Ok B s.heap) (r : Room 3 A) {a : Addr} {xs : List Value} {ruler : List Nat} (ha : s.heap.IsList a xs.toArray) (hp : Nats xs ruler) (hlen : ruler.length ≤ 16) (hz0 : ruler[0]? ≠ some 0)
    (k : ∀ s' y ys n, Got s s' [(y, lst ys n)] → Nats ys (szs ruler 16) → R (.ok (.ret (.ref y))) s') :
    codeAny (model PR w) A (.call (.ref 88) ⟨[.ref a], []⟩) R s := by
  refine enter (fd := F88.1) (binds := [(Str.ofString "ruler", .ref a)]) G O r (F88.2 w) cd88 rfl (BindsTo.of_eq (by rfl)) (by decide) (locs rfl) ?_
  intro A s₁ D r
  refine x_ret ?_
  refine x_comp ?_
  (((with_reducible refine' fn_B boot_zip ?G ?D b_zip ?_ ?hs ?hc); (case hc => exact .inr ⟨_, rfl⟩)); (case hs => (repeat' apply And.intro) <;> exact rfl); (case G => assumption); (case D => assumption))
  ((with_reducible refine sp_cons ?_ ?he); (case he => exact rfl))
  (((with_reducible refine' fn_B boot_range ?G ?D b_range ?_ ?hs ?hc); (case hc => exact .inr ⟨_, rfl⟩)); (case hs => (repeat' apply And.intro) <;> exact rfl); (case G => assumption); (case D => assumption))
  ((with_reducible refine sp_cons ?_ ?he); (case he => exact rfl))
  ((with_reducible refine' e_int ?D ?_); (case D => assumption); intro _ _ _)
  (with_reducible refine sp_nil ?_)
  refine r_1 (by assumption) ?_
  intro rr s2 tr ur vr D2 hr
  ((with_reducible refine sp_cons ?_ ?he); (case he => exact rfl))
  refine wpAny_Call_Name_kw ?_
  refine nmG G (by assumption) g76 ?_
  refine c_fn G F76.2 ?_
  ((with_reducible refine sp_cons ?_ ?he); (case he => exact rfl))
  ((with_reducible refine' nmQ ?D ?v ?_ ?o ?L); (case L => exact rfl); (case o => exact Eq.refl true); (case D => assumption); (case v => exact rfl))
  (with_reducible refine sp_nil ?_)
  refine ⟨Act.ok (by assumption), ?_⟩
  refine grp_spec G D2.ok (r.weak (by decide)) ?_
  intro s3 ge oLg nm qn got hgens hns
  have D3 := D2.take got
  (with_reducible refine sp_nil ?_)
  have hr3 := got.aft.ext _ _ (range_n102 hr D2.hp.tab) List.not_mem_nil hr
  refine c_zip (n := 16) D3 hr3 (by decide) ⟨_, nm, qn, D3.at 0 rfl, rfl, rfl, rfl⟩ ?_
  intro s4 z kp it ri o4 ho4 hg4 D4
  refine comp_frame2 D4 rfl (fun Q' h => wpAny_pyIter_zip (D4.at 0 rfl) h) (by decide) rfl ?_
  intro s5 oL m hg5 hnL hmL D5
  obtain ⟨hgl1, hgl2⟩ : s5.gens[s2.gens.size]? = some (.fresh (.func gBody (gEnv s2.heap.objs.size))) ∧ s.gens.size ≤ s2.gens.size := ⟨by rw [hg5, hg4, hgens]; exact Array.getElem?_push_size, D2.like.size⟩
  have haL : a < s2.heap.objs.size := by
    obtain ⟨o, e, _⟩ := ha
    exact Nat.lt_trans (Heap.lt_size e) D2.hp.ltL
  have ha2 : a ≠ 102 := Heap.IsList.n102 ha O.tab
  refine comp_pair (fun n s' => ∃ i ys m b1 k0 k1 n2 o oLg' gs, n = 17 - i ∧ i ≤ 16 ∧ s'.gens[s2.gens.size]? = some gs ∧ Nats ys (szs ruler i) ∧ RI 0 1 16 i o ∧
      ((i = 0 ∧ gs = .fresh (.func gBody (gEnv s2.heap.objs.size)) ∧ oLg' = oLg ∧ Act B s (s4.heap.objs.size + 1) [] (Nz s4.heap.objs.size z kp it ri ge s2.heap.objs.size s.heap.objs.size ys m .none (.bool b1) k0 k1 n2 o (genO s2.gens.size nm qn) oLg' oL) T0 s') ∨
        ∃ I oI, GSt w A.in1.in1 mg mb B a xs ruler s2.heap.objs.size I oLg' oI i gs ∧ Act B s (s4.heap.objs.size + 1) [] ((I, oI) :: Nz s4.heap.objs.size z kp it ri ge s2.heap.objs.size s.heap.objs.size ys m .none (.bool b1) k0 k1 n2 o (genO s2.gens.size nm qn) oLg' oL) T0 s'))
      (fun Q' h => wpAny_pyIter_zip (D5.at 1 rfl) h) 17 ⟨0, [], 0, false, .none, .none, 0, o4, oLg, _, rfl, by first | decide | assumption | exact a1 ‹_› | exact a2 ‹_› | exact a3 ‹_› (by decide) | exact dl ‹_› | exact ee ‹_› ‹_› | lia | omega, hgl1, .nil, ho4, .inl ⟨rfl, rfl, rfl, D5⟩⟩ ?_
  rintro n s' ⟨i, ys, m6, b1, k0, k1, n2, o, oLg', gs, rfl, hi, hgs, hys, ho, hcase⟩
  have hyl : ys.length ≤ 1000 := by rw [hys.len]; have := szs_len ruler i; first | lia | omega
  refine zip_turn G r.hh r.room hcase ho ha ha2 hgs hgl2 hns hp hlen hz0 haL ?_ ?_
  · intro T x t u s₁ I oI' oL' o' n2' gs' hi16 hval ho' hgs' hS' D7
    refine wpAny_letOwnedTupleGo_zip (D7.at 3 rfl) fun h8 hz8 hs8 => ?_
    have D8 := D7.to' (D7.hp.turn 3 rfl (soft_zip ⟨_, rfl⟩) (fun b ob hb e => (hs8.2 b hb).trans e) hz8)
    have D8r := D8.rebase
    refine assign_Tuple_tuple r.hh (tup_is (D8.at 0 rfl)) (by rfl) (by rfl) fun h9 hk9 => ?_
    have D9 := D8r.to' (D8r.hp.keeps fun b o e => hk9 b o (Nat.ne_of_lt (Heap.lt_size e)) e)
    refine as_cons ?_
    refine wpAny_assign_Name (stL D9 ?_ rfl rfl)
    intro s10 D10
    refine as_cons ?_
    refine wpAny_assign_Name (stL D10 ?_ rfl rfl)
    intro s11 D11
    refine as_nil ?_
    ((with_reducible refine' nmQ ?D ?v ?_ ?o ?L); (case L => exact rfl); (case o => exact Eq.refl true); (case D => assumption); (case v => exact rfl))
    refine a_append (xs := ys) D11 2 rfl hyl ?_
    intro s12 m12 D12
    have D13 := (D8.rejoin D12).erase 0
    refine ⟨17 - (i + 1), by first | with_reducible exact t22 ‹_› | lia | omega, i + 1, _, _, _, _, _, _, _, _, _, rfl, by first | decide | assumption | exact a1 ‹_› | exact a2 ‹_› | exact a3 ‹_› (by decide) | exact dl ‹_› | exact ee ‹_› ‹_› | lia | omega, D12.like.kg _ _ hgs', ?_, ho', .inr ⟨I, oI', hS', Act.drop D13 fun x v e => by cases e⟩⟩
    show Nats _ (match gval ruler none i with | some x => szs ruler i ++ [x] | none => szs ruler i)
    rw [hval]
    exact hys.app (Nats.one _ _)
  · intro s₁ hc D7
    obtain ⟨m', hn, _⟩ := D7.hp.ns
    refine ⟨m', hn, fun h' hs' => ?_⟩
    have D8 := Act.swap (N := [(s4.heap.objs.size, lst ys m6)]) D7 (Nat.le_refl _) hnL hmL
    refine k _ s4.heap.objs.size ys m6 (Act.got (D8.to' (D8.hp.other (a := s4.heap.objs.size + 1) ⟨?_, ?_⟩ ?_ (ns_soft hn) fun b ob hb e => (hs'.2 b hb).trans e))) ?_
    · exact Nat.le_trans (Nat.le_of_lt D4.hp.ltL) (Nat.le_succ _)
    · exact Nat.ne_of_gt (Nat.lt_succ_of_lt D4.hp.ltL)
    · intro p hp
      rw [List.mem_singleton.mp hp]; exact Nat.ne_of_lt (Nat.lt_succ_self _)
    · rcases hc with hc | hc
      · have : i = 16 := by first | decide | assumption | exact a1 ‹_› | exact a2 ‹_› | exact a3 ‹_› (by decide) | exact dl ‹_› | exact ee ‹_› ‹_› | lia | omega
        rw [← this]; exact hys
      · have := (szs_end hc (16 - i)).1
        rw [show i + (16 - i) = 16 by first | with_reducible exact Nat.add_sub_cancel' ‹_› | lia | omega] at this
        rw [this]; exact hys
end
end
noncomputable def copyN (base : List Nat) (p : Nat) : Nat → List Nat
  | 0 => base
  | j + 1 => copyN base p j ++ [(copyN base p j).getD (p + j) 0]
noncomputable def readStep (sizes signs : List Nat) (k x : Nat) : List Nat := if x < 256 then signs ++ List.replicate (sizes.getD k 0) x else copyN signs (x - 256) (sizes.getD k 0)
noncomputable def readTo (syms sizes : List Nat) : Nat → List Nat
  | 0 => []
  | k + 1 => readStep sizes (readTo syms sizes k) k (syms.getD k 0)
theorem copyN_len (base : List Nat) (p : Nat) : ∀ j, (copyN base p j).length = base.length + j
  | 0 => rfl
  | j + 1 => by rewrite [copyN]; rw [List.length_append, copyN_len base p j]; rfl
structure Readable (syms sizes : List Nat) : Prop where
  pos : ∀ k, k < syms.length → 0 < syms.getD k 0
  siz : syms.length ≤ sizes.length
  le : ∀ z ∈ sizes, z ≤ 16
  ref : ∀ k, k < syms.length → 256 ≤ syms.getD k 0 → syms.getD k 0 - 256 < (readTo syms sizes k).length
  few : syms.length ≤ 16
theorem read_len {syms sizes : List Nat} (h : ∀ z ∈ sizes, z ≤ 16) : ∀ k, (readTo syms sizes k).length ≤ 16 * k
  | 0 => Nat.le_refl _
  | k + 1 => by
    have ih := read_len (syms := syms) h k
    have hz : sizes.getD k 0 ≤ 16 := by
      rw [List.getD_eq_getElem?_getD]
      cases e : sizes[k]? with
      | none => simp
      | some z => exact h z (List.mem_of_getElem? e)
    show (readStep sizes (readTo syms sizes k) k (syms.getD k 0)).length ≤ _
    unfold readStep
    split
    · rw [List.length_append, List.length_replicate]; first | with_reducible exact t81 ‹_› ‹_› | lia | omega
    · rw [copyN_len]; first | with_reducible exact t81 ‹_› ‹_› | lia | omega
theorem getD_some {l : List Nat} {i : Nat} (h : i < l.length) : l[i]? = some (l.getD i 0) := by
  rw [List.getD_eq_getElem?_getD, List.getElem?_eq_getElem h]; rfl
section
variable {w : World} {mg mb : Str → Option Value} {B : Heap} {A : Around} {s₀ s : Shared} {R : Result → Shared → Prop} {l : List (Str × Value)}
noncomputable abbrev rdL (ru : Addr) (sy : Addr) (z : Addr) (y : Addr) : List (Str × Value) := [(Str.ofString "ruler", .ref ru), (Str.ofString "symbols", .ref sy), (Str.ofString "sizes", .ref z), (Str.ofString "signs", .ref y)]
noncomputable abbrev rdK (ru : Addr) (sy : Addr) (z : Addr) (y : Addr) (i : Nat) (tv : Tok) (e : Bool) (x : Nat) : List (Str × Value) := [(Str.ofString "ruler", .ref ru), (Str.ofString "symbols", .ref sy), (Str.ofString "sizes", .ref z), (Str.ofString "signs", .ref y), (Str.ofString "k", .int (i : Int) tv), (Str.ofString "ended", .bool e), (Str.ofString "leaf", .bool (decide ((x : Int) < 256))), (Str.ofString "name", .bool (decide (256 ≤ (x : Int))))]
theorem read_spec (G : Gnd w mg mb B) (O : Ok B s.heap) (r : Room 5 A) {sy ru : Addr} {xs ys : List Value} {syms ruler : List Nat} (ha : s.heap.IsList sy xs.toArray) (hx : Nats xs (syms ++ [0])) (hb : s.heap.IsList ru ys.toArray) (hy : Nats ys ruler)
    (hlen : ruler.length ≤ 16) (hz0 : ruler[0]? ≠ some 0) (hR : Readable syms (szs ruler 16))
    (k : ∀ s' y vs n, Got s s' [(y, lst vs n)] → Nats vs (readTo syms (szs ruler 16) syms.length) → R (.ok (.ret (.ref y))) s') :
    codeAny (model PR w) A (.call (.ref 100) ⟨[.ref sy, .ref ru], []⟩) R s := by
  refine enter (fd := F100.1) (binds := [(Str.ofString "symbols", .ref sy), (Str.ofString "ruler", .ref ru)]) G O r (F100.2 w) cd100 rfl (BindsTo.of_eq (by rfl)) (by decide) (locs rfl) ?_
  intro A s₁ D r
  have hxl := hx.len
  rw [List.length_append] at hxl
  have hfew := hR.few
  refine x_assignK ?_
  intro K9 k9
  ((with_reducible refine' fn_Q ?G ?D g88 F88.2 ?_ ?hs ?he); (case hs => exact Eq.refl true); (case he => exact rfl); (case G => assumption); (case D => assumption))
  ((with_reducible refine sp_cons ?_ ?he); (case he => exact rfl))
  ((with_reducible refine' nmQ ?D ?v ?_ ?o ?L); (case L => exact rfl); (case o => exact Eq.refl true); (case D => assumption); (case v => exact rfl))
  (with_reducible refine sp_nil ?_)
  refine ⟨D.ok, ?_⟩
  refine sizes_spec G D.ok (r.weak (by decide)) (Heap.IsList.ext hb O.tab D.ext) hy hlen hz0 ?_
  intro s2 z zs mz got hzs
  have D2 := D.take got
  refine k9 _ _ ?_
  refine stL D2 ?_ rfl rfl
  intro s3 D3
  refine x_assignK ?_
  intro K9 k9
  refine List_ ?_
  (with_reducible refine sp_nil ?_)
  refine n_list D3 (by simp) ?_
  intro y s4 D4
  refine k9 _ _ ?_
  ((with_reducible refine' stL ?D ?_ ?hk ?hx ?hL); (case hL => exact rfl); (case D => assumption); (case hx => exact rfl); (case hk => exact rfl); intro _ _)
  obtain ⟨sizes, hsz⟩ : ∃ sizes, sizes = szs ruler 16 := ⟨_, rfl⟩
  rw [← hsz] at hR hzs k
  refine x_forW (fun I n s' => ∃ i o vs m, n = syms.length + 1 - i ∧ i ≤ syms.length ∧ RI 0 1 (syms.length + 1) i o ∧ Nats vs (readTo syms sizes i) ∧
    Act B s s.heap.objs.size (rdL ru sy z y) [(I, o), (y, lst vs m), (z, lst zs mz)] T0 s') ?_ ?_
  · intro K9 k9
    (((with_reducible refine' fn_B boot_range ?G ?D b_range ?_ ?hs ?hc); (case hc => exact .inr ⟨_, rfl⟩)); (case hs => (repeat' apply And.intro) <;> exact rfl); (case G => assumption); (case D => assumption))
    ((with_reducible refine sp_cons ?_ ?he); (case he => exact rfl))
    (((with_reducible refine' fn_B boot_len' ?G ?D b_len ?_ ?hs ?hc); (case hc => exact .inl ⟨_, rfl⟩)); (case hs => (repeat' apply And.intro) <;> exact rfl); (case G => assumption); (case D => assumption))
    ((with_reducible refine sp_cons ?_ ?he); (case he => exact rfl))
    ((with_reducible refine' nmQ ?D ?v ?_ ?o ?L); (case L => exact rfl); (case o => exact Eq.refl true); (case D => assumption); (case v => exact rfl))
    (with_reducible refine sp_nil ?_)
    refine l_len (by assumption) (Heap.IsList.ext ha O.tab (Act.ext (by assumption))) (by rw [hxl]; simp; first | with_reducible exact a3 ‹_› (by decide) | lia | omega) ?_
    intro s5 t5 D5
    (with_reducible refine sp_nil ?_)
    refine r_1 (by assumption) ?_
    intro rr s6 t u v D6 hr
    refine i_r1 (n := syms.length + 1) D6 (by rw [hxl] at hr; exact hr) (by first | exact Nat.lt_of_le_of_lt ‹_› (by decide) | lia | omega) ?_
    intro I o s7 ho D7
    exact k9 _ _ ⟨I, _, rfl, 0, o, [], 0, rfl, Nat.zero_le _, ho, .nil, D7⟩
  · rintro I n s5 ⟨i, o, vs, m, rfl, hi, ho, hvs, D5⟩
    intro W1 z1 r1
    refine (It.range r.hh 0 1 (syms.length + 1)).step D5 0 rfl ho trivial (by first | with_reducible exact Nat.lt_succ_of_le ‹_› | lia | omega) ?_
    rintro v s6 o' ⟨tv, rfl⟩ ho' D6
    have e0 : (0 : Int) + (i : Int) * 1 = (i : Int) := by first | decide | assumption | exact a1 ‹_› | exact a2 ‹_› | exact a3 ‹_› (by decide) | exact dl ‹_› | exact ee ‹_› ‹_› | lia | omega
    rw [e0]
    ((with_reducible refine' stL ?D ?_ ?hk ?hx ?hL); (case hL => exact rfl); (case D => assumption); (case hx => exact rfl); (case hk => exact rfl); intro _ _)
    obtain ⟨x, hx0⟩ : ∃ x, x = (syms ++ [0]).getD i 0 := ⟨_, rfl⟩
    obtain ⟨tx, hxi⟩ := hx.get (getD_some (l := syms ++ [0]) (i := i) (by simp; first | with_reducible exact Nat.lt_succ_of_le ‹_› | lia | omega))
    rw [← hx0] at hxi
    refine x_assignK ?_
    intro K9 k9
    ((with_reducible refine' fn_Q ?G ?D g35 F35.2 ?_ ?hs ?he); (case hs => exact Eq.refl true); (case he => exact rfl); (case G => assumption); (case D => assumption))
    ((with_reducible refine sp_cons ?_ ?he); (case he => exact rfl))
    (with_reducible refine Subscript_ ?_)
    ((with_reducible refine' nmQ ?D ?v ?_ ?o ?L); (case L => exact rfl); (case o => exact Eq.refl true); (case D => assumption); (case v => exact rfl))
    ((with_reducible refine' nmQ ?D ?v ?_ ?o ?L); (case L => exact rfl); (case o => exact Eq.refl true); (case D => assumption); (case v => exact rfl))
    refine l_item (Heap.IsList.ext ha O.tab (Act.ext (by assumption))) hxi (by rw [hxl]; simp; first | with_reducible exact a3 ‹_› (by decide) | lia | omega) ?_
    (with_reducible refine sp_nil ?_)
    refine ⟨Act.ok (by assumption), ?_⟩
    refine eof_spec G (Act.ok (by assumption)) (r.weak (by decide)) ?_
    intro s7 X7
    have D7 := Act.aft (by assumption) X7
    refine k9 _ _ ?_
    refine stL D7 ?_ rfl rfl
    intro s8 D8
    refine x_assignK ?_
    intro K9 k9
    ((with_reducible refine' fn_Q ?G ?D g21 F21.2 ?_ ?hs ?he); (case hs => exact Eq.refl true); (case he => exact rfl); (case G => assumption); (case D => assumption))
    ((with_reducible refine sp_cons ?_ ?he); (case he => exact rfl))
    (with_reducible refine Subscript_ ?_)
    ((with_reducible refine' nmQ ?D ?v ?_ ?o ?L); (case L => exact rfl); (case o => exact Eq.refl true); (case D => assumption); (case v => exact rfl))
    ((with_reducible refine' nmQ ?D ?v ?_ ?o ?L); (case L => exact rfl); (case o => exact Eq.refl true); (case D => assumption); (case v => exact rfl))
    refine l_item (Heap.IsList.ext ha O.tab (Act.ext (by assumption))) hxi (by rw [hxl]; simp; first | with_reducible exact a3 ‹_› (by decide) | lia | omega) ?_
    (with_reducible refine sp_nil ?_)
    refine ⟨Act.ok (by assumption), ?_⟩
    refine term_spec G (Act.ok (by assumption)) (r.weak (by decide)) ?_
    intro s9 X9
    have D9 := Act.aft (by assumption) X9
    refine k9 _ _ ?_
    refine stL D9 ?_ rfl rfl
    intro s10 D10
    refine x_assignK ?_
    intro K9 k9
    ((with_reducible refine' fn_Q ?G ?D g28 F28.2 ?_ ?hs ?he); (case hs => exact Eq.refl true); (case he => exact rfl); (case G => assumption); (case D => assumption))
    ((with_reducible refine sp_cons ?_ ?he); (case he => exact rfl))
    (with_reducible refine Subscript_ ?_)
    ((with_reducible refine' nmQ ?D ?v ?_ ?o ?L); (case L => exact rfl); (case o => exact Eq.refl true); (case D => assumption); (case v => exact rfl))
    ((with_reducible refine' nmQ ?D ?v ?_ ?o ?L); (case L => exact rfl); (case o => exact Eq.refl true); (case D => assumption); (case v => exact rfl))
    refine l_item (Heap.IsList.ext ha O.tab (Act.ext (by assumption))) hxi (by rw [hxl]; simp; first | with_reducible exact a3 ‹_› (by decide) | lia | omega) ?_
    (with_reducible refine sp_nil ?_)
    refine ⟨Act.ok (by assumption), ?_⟩
    refine nont_spec G (Act.ok (by assumption)) (r.weak (by decide)) ?_
    intro s11 X11
    have D11 := Act.aft (by assumption) X11
    refine k9 _ _ ?_
    refine stL D11 ?_ rfl rfl
    intro s12 D12
    have D12 : Act B s s.heap.objs.size (rdK ru sy z y i tv (((x : Int) == 0)) x)
      [(I, o'), (y, lst vs m), (z, lst zs mz)] T0 s12 := D12
    clear D7 D8 D9 D10 D11
    refine x_if ?_
    refine wpAny_isTrue_BoolOp ?_
    by_cases hin : i = syms.length
    · have hx00 : x = 0 := by rw [hx0, hin]; simp
      subst hx00
      refine wpAny_allTrue_And_cons ?_
      ((with_reducible refine wpAny_isTrue_Compare1 ?_ ?hm); (case hm => with_unfolding_all rfl))
      ((with_reducible refine' nmQ ?D ?v ?_ ?o ?L); (case L => exact rfl); (case o => exact Eq.refl true); (case D => assumption); (case v => exact rfl))
      (with_reducible refine e_bool ?_)
      refine is_bool ?_
      (with_reducible refine wpAny_truthy_bool ?_)
      rw [if_pos (by rfl)]
      refine wpAny_allTrue_And_cons ?_
      ((with_reducible refine wpAny_isTrue_Compare1 ?_ ?hm); (case hm => with_unfolding_all rfl))
      ((with_reducible refine' nmQ ?D ?v ?_ ?o ?L); (case L => exact rfl); (case o => exact Eq.refl true); (case D => assumption); (case v => exact rfl))
      (with_reducible refine e_bool ?_)
      refine is_bool ?_
      (with_reducible refine wpAny_truthy_bool ?_)
      rw [if_pos (by rfl)]
      refine wpAny_allTrue_And_cons ?_
      ((with_reducible refine wpAny_isTrue_Compare1 ?_ ?hm); (case hm => with_unfolding_all rfl))
      ((with_reducible refine' nmQ ?D ?v ?_ ?o ?L); (case L => exact rfl); (case o => exact Eq.refl true); (case D => assumption); (case v => exact rfl))
      (with_reducible refine e_bool ?_)
      refine is_bool ?_
      (with_reducible refine wpAny_truthy_bool ?_)
      rw [if_pos (by rfl)]
      refine wpAny_allTrue_And_nil ?_
      refine ⟨fun _ => ?_, fun h => (by cases h)⟩
      refine x_ret ?_
      ((with_reducible refine' nmQ ?D ?v ?_ ?o ?L); (case L => exact rfl); (case o => exact Eq.refl true); (case D => assumption); (case v => exact rfl))
      subst hin
      refine r1 _ _ ?_
      exact k _ y vs m (D12.got.sub (List.Sublist.cons _ (List.Sublist.cons_cons _ (List.nil_sublist _)))) hvs
    · have hxs : x = syms.getD i 0 := by
        rw [hx0, List.getD_eq_getElem?_getD, List.getElem?_append_left (by first | with_reducible exact Nat.lt_of_le_of_ne ‹_› ‹_› | lia | omega), List.getD_eq_getElem?_getD]
      have hxp : 0 < x := by rw [hxs]; exact hR.pos i (by first | with_reducible exact Nat.lt_of_le_of_ne ‹_› ‹_› | lia | omega)
      have b0 : ((x : Int) == 0) = false := by simp; first | lia | omega
      rw [b0] at D12
      refine wpAny_allTrue_And_cons ?_
      ((with_reducible refine wpAny_isTrue_Compare1 ?_ ?hm); (case hm => with_unfolding_all rfl))
      ((with_reducible refine' nmQ ?D ?v ?_ ?o ?L); (case L => exact rfl); (case o => exact Eq.refl true); (case D => assumption); (case v => exact rfl))
      (with_reducible refine e_bool ?_)
      refine is_bool ?_
      (with_reducible refine wpAny_truthy_bool ?_)
      rw [if_neg (by decide)]
      refine ⟨fun h => (by cases h), fun _ => x_nil ?_⟩
      have his : i < sizes.length := by have := hR.siz; first | lia | omega
      obtain ⟨sz, hsz0⟩ : ∃ sz, sz = sizes.getD i 0 := ⟨_, rfl⟩
      obtain ⟨ts, hts⟩ := hzs.get (getD_some his)
      rw [← hsz0] at hts
      have hsz16 : sz ≤ 16 := by rw [hsz0]; exact hR.le _ (List.mem_of_getElem? (getD_some his))
      have hbl := read_len (syms := syms) hR.le i
      have hvl := hvs.len
      refine x_forW (fun I2 n2 s' => ∃ j o2 vs' m', n2 = sz - j ∧ j ≤ sz ∧ RI 0 1 sz j o2 ∧ Nats vs' (if x < 256 then readTo syms sizes i ++ List.replicate j x else copyN (readTo syms sizes i) (x - 256) j) ∧
        Act B s s.heap.objs.size (rdK ru sy z y i tv false x) [(I2, o2), (I, o'), (y, lst vs' m'), (z, lst zs mz)] T0 s') ?_ ?_
      · intro K9 k9
        (((with_reducible refine' fn_B boot_range ?G ?D b_range ?_ ?hs ?hc); (case hc => exact .inr ⟨_, rfl⟩)); (case hs => (repeat' apply And.intro) <;> exact rfl); (case G => assumption); (case D => assumption))
        ((with_reducible refine sp_cons ?_ ?he); (case he => exact rfl))
        (with_reducible refine Subscript_ ?_)
        ((with_reducible refine' nmQ ?D ?v ?_ ?o ?L); (case L => exact rfl); (case o => exact Eq.refl true); (case D => assumption); (case v => exact rfl))
        ((with_reducible refine' nmQ ?D ?v ?_ ?o ?L); (case L => exact rfl); (case o => exact Eq.refl true); (case D => assumption); (case v => exact rfl))
        refine l_item (lst_is (Act.at (by assumption) 2 rfl)) hts (by rw [hzs.len]; have := szs_len ruler 16; rw [hsz]; first | with_reducible exact a3 ‹_› (by decide) | lia | omega) ?_
        (with_reducible refine sp_nil ?_)
        refine r_1 (by assumption) ?_
        intro rr s13 t u v D13 hr
        refine i_r1 (n := sz) D13 hr (by first | decide | assumption | exact a1 ‹_› | exact a2 ‹_› | exact a3 ‹_› (by decide) | exact dl ‹_› | exact ee ‹_› ‹_› | lia | omega) ?_
        intro I2 o2 s14 ho2 D14
        refine k9 _ _ ⟨I2, _, rfl, 0, o2, vs, m, rfl, Nat.zero_le _, ho2, ?_, D14⟩
        by_cases hx256 : x < 256
        · rw [if_pos hx256]; simpa using hvs
        · rw [if_neg hx256]; exact hvs
      · rintro I2 n2 s13 ⟨j, o2, vs', m', rfl, hj, ho2, hvs', D13⟩
        intro W2 z2 r2
        by_cases hjs : j < sz
        · refine (It.range r.hh 0 1 sz).step D13 0 rfl ho2 trivial hjs ?_
          rintro v s14 o2' ⟨tj, rfl⟩ ho2' D14
          have e1 : (0 : Int) + (j : Int) * 1 = (j : Int) := by first | decide | assumption | exact a1 ‹_› | exact a2 ‹_› | exact a3 ‹_› (by decide) | exact dl ‹_› | exact ee ‹_› ‹_› | lia | omega
          rw [e1]
          clear e1
          ((with_reducible refine' stL ?D ?_ ?hk ?hx ?hL); (case hL => exact rfl); (case D => assumption); (case hx => exact rfl); (case hk => exact rfl); intro _ _)
          refine x_if ?_
          refine wpAny_isTrue_BoolOp ?_
          refine wpAny_allTrue_And_cons ?_
          ((with_reducible refine wpAny_isTrue_Compare1 ?_ ?hm); (case hm => with_unfolding_all rfl))
          ((with_reducible refine' nmQ ?D ?v ?_ ?o ?L); (case L => exact rfl); (case o => exact Eq.refl true); (case D => assumption); (case v => exact rfl))
          (with_reducible refine e_bool ?_)
          refine is_bool ?_
          (with_reducible refine wpAny_truthy_bool ?_)
          rw [if_pos (by rfl)]
          refine wpAny_allTrue_And_cons ?_
          ((with_reducible refine wpAny_isTrue_Compare1 ?_ ?hm); (case hm => with_unfolding_all rfl))
          ((with_reducible refine' nmQ ?D ?v ?_ ?o ?L); (case L => exact rfl); (case o => exact Eq.refl true); (case D => assumption); (case v => exact rfl))
          (with_reducible refine e_bool ?_)
          refine is_bool ?_
          (with_reducible refine wpAny_truthy_bool ?_)
          by_cases hx256 : x < 256
          · rw [if_pos (by have : (x : Int) < 256 := by first | exact s20 ‹_› | lia | omega
                           rw [decide_eq_true this]; rfl)]
            rw [if_pos hx256] at hvs'
            refine wpAny_allTrue_And_cons ?_
            ((with_reducible refine wpAny_isTrue_Compare1 ?_ ?hm); (case hm => with_unfolding_all rfl))
            ((with_reducible refine' nmQ ?D ?v ?_ ?o ?L); (case L => exact rfl); (case o => exact Eq.refl true); (case D => assumption); (case v => exact rfl))
            (with_reducible refine e_bool ?_)
            refine is_bool ?_
            (with_reducible refine wpAny_truthy_bool ?_)
            rw [if_pos (by have : ¬ (256 ≤ (x : Int)) := by first | decide | assumption | exact a1 ‹_› | exact a2 ‹_› | exact a3 ‹_› (by decide) | exact dl ‹_› | exact ee ‹_› ‹_› | lia | omega
                           rw [decide_eq_false this]; rfl)]
            refine wpAny_allTrue_And_nil ?_
            refine ⟨fun _ => ?_, fun h => (by cases h)⟩
            refine x_exprK ?_
            intro K9 k9
            refine MethodCall_ ?_
            ((with_reducible refine' nmQ ?D ?v ?_ ?o ?L); (case L => exact rfl); (case o => exact Eq.refl true); (case D => assumption); (case v => exact rfl))
            refine m_list (Act.at (by assumption) 2 rfl) PySem.F.slot_list_append PySem.F.type_list_append ?_
            refine callWith_method1 ?_
            ((with_reducible refine sp_cons ?_ ?he); (case he => exact rfl))
            (with_reducible refine Subscript_ ?_)
            ((with_reducible refine' nmQ ?D ?v ?_ ?o ?L); (case L => exact rfl); (case o => exact Eq.refl true); (case D => assumption); (case v => exact rfl))
            ((with_reducible refine' nmQ ?D ?v ?_ ?o ?L); (case L => exact rfl); (case o => exact Eq.refl true); (case D => assumption); (case v => exact rfl))
            refine l_item (Heap.IsList.ext ha O.tab (Act.ext (by assumption))) hxi (by rw [hxl]; simp; first | with_reducible exact a3 ‹_› (by decide) | lia | omega) ?_
            (with_reducible refine sp_nil ?_)
            refine a_append (by assumption) 2 rfl (by rw [hvs'.len, List.length_append, List.length_replicate]; first | lia | omega) ?_
            intro s15 m15 D15
            refine k9 _ _ ?_
            refine ⟨fun a q => (by cases q), x_nil (x_nil ?_)⟩
            refine z2 _ ?_
            refine ⟨sz - (j + 1), by first | decide | assumption | exact a1 ‹_› | exact a2 ‹_› | exact a3 ‹_› (by decide) | exact dl ‹_› | exact ee ‹_› ‹_› | lia | omega, j + 1, o2', _, _, rfl, hjs, ho2', ?_, Act.pre (r := [(Str.ofString "turn", .int (j : Int) tj)]) D15⟩
            rw [if_pos hx256, List.replicate_succ', ← List.append_assoc]
            exact hvs'.app (Nats.one _ _)
          · rw [if_neg (by have : ¬ (x : Int) < 256 := by first | decide | assumption | exact a1 ‹_› | exact a2 ‹_› | exact a3 ‹_› (by decide) | exact dl ‹_› | exact ee ‹_› ‹_› | lia | omega
                           rw [decide_eq_false this]; exact Bool.false_ne_true)]
            rw [if_neg hx256] at hvs'
            have hr1 := hR.ref i (by first | with_reducible exact Nat.lt_of_le_of_ne ‹_› ‹_› | lia | omega) (by rw [← hxs]; first | with_reducible exact Nat.le_of_not_lt ‹_› | lia | omega)
            rw [← hxs] at hr1
            have hcl := copyN_len (readTo syms sizes i) (x - 256) j
            refine ⟨fun h => (by cases h), fun _ => ?_⟩
            refine x_if ?_
            refine wpAny_isTrue_BoolOp ?_
            refine wpAny_allTrue_And_cons ?_
            ((with_reducible refine wpAny_isTrue_Compare1 ?_ ?hm); (case hm => with_unfolding_all rfl))
            ((with_reducible refine' nmQ ?D ?v ?_ ?o ?L); (case L => exact rfl); (case o => exact Eq.refl true); (case D => assumption); (case v => exact rfl))
            (with_reducible refine e_bool ?_)
            refine is_bool ?_
            (with_reducible refine wpAny_truthy_bool ?_)
            rw [if_pos (by rfl)]
            refine wpAny_allTrue_And_cons ?_
            ((with_reducible refine wpAny_isTrue_Compare1 ?_ ?hm); (case hm => with_unfolding_all rfl))
            ((with_reducible refine' nmQ ?D ?v ?_ ?o ?L); (case L => exact rfl); (case o => exact Eq.refl true); (case D => assumption); (case v => exact rfl))
            (with_reducible refine e_bool ?_)
            refine is_bool ?_
            (with_reducible refine wpAny_truthy_bool ?_)
            rw [if_pos (by have : ¬ (x : Int) < 256 := by first | decide | assumption | exact a1 ‹_› | exact a2 ‹_› | exact a3 ‹_› (by decide) | exact dl ‹_› | exact ee ‹_› ‹_› | lia | omega
                           rw [decide_eq_false this]; rfl)]
            refine wpAny_allTrue_And_cons ?_
            ((with_reducible refine wpAny_isTrue_Compare1 ?_ ?hm); (case hm => with_unfolding_all rfl))
            ((with_reducible refine' nmQ ?D ?v ?_ ?o ?L); (case L => exact rfl); (case o => exact Eq.refl true); (case D => assumption); (case v => exact rfl))
            (with_reducible refine e_bool ?_)
            refine is_bool ?_
            (with_reducible refine wpAny_truthy_bool ?_)
            rw [if_pos (by have : 256 ≤ (x : Int) := by first | decide | assumption | exact a1 ‹_› | exact a2 ‹_› | exact a3 ‹_› (by decide) | exact dl ‹_› | exact ee ‹_› ‹_› | lia | omega
                           rw [decide_eq_true this]; rfl)]
            refine wpAny_allTrue_And_nil ?_
            refine ⟨fun _ => ?_, fun h => (by cases h)⟩
            refine x_exprK ?_
            intro K9 k9
            refine MethodCall_ ?_
            ((with_reducible refine' nmQ ?D ?v ?_ ?o ?L); (case L => exact rfl); (case o => exact Eq.refl true); (case D => assumption); (case v => exact rfl))
            refine m_list (Act.at (by assumption) 2 rfl) PySem.F.slot_list_append PySem.F.type_list_append ?_
            refine callWith_method1 ?_
            ((with_reducible refine sp_cons ?_ ?he); (case he => exact rfl))
            (with_reducible refine Subscript_ ?_)
            ((with_reducible refine' nmQ ?D ?v ?_ ?o ?L); (case L => exact rfl); (case o => exact Eq.refl true); (case D => assumption); (case v => exact rfl))
            (with_reducible refine wpAny_BinOp ?_)
            (with_reducible refine wpAny_BinOp ?_)
            (with_reducible refine Subscript_ ?_)
            ((with_reducible refine' nmQ ?D ?v ?_ ?o ?L); (case L => exact rfl); (case o => exact Eq.refl true); (case D => assumption); (case v => exact rfl))
            ((with_reducible refine' nmQ ?D ?v ?_ ?o ?L); (case L => exact rfl); (case o => exact Eq.refl true); (case D => assumption); (case v => exact rfl))
            refine l_item (Heap.IsList.ext ha O.tab (Act.ext (by assumption))) hxi (by rw [hxl]; simp; first | with_reducible exact a3 ‹_› (by decide) | lia | omega) ?_
            ((with_reducible refine' e_int ?D ?_); (case D => assumption); intro _ _ _)
            refine o_subK (k := ((x - 256 : Nat) : Int)) (by first | with_reducible exact s15 ‹_› | lia | omega) (by assumption) ?_
            intro s15 t15 D15
            ((with_reducible refine' nmQ ?D ?v ?_ ?o ?L); (case L => exact rfl); (case o => exact Eq.refl true); (case D => assumption); (case v => exact rfl))
            refine o_addK (k := ((x - 256 + j : Nat) : Int)) (by first | rfl | lia | omega) (by assumption) ?_
            intro s16 t16 D16
            obtain ⟨tq, hq⟩ := hvs'.get (getD_some (l := copyN (readTo syms sizes i) (x - 256) j) (i := x - 256 + j) (by first | decide | assumption | exact a1 ‹_› | exact a2 ‹_› | exact a3 ‹_› (by decide) | exact dl ‹_› | exact ee ‹_› ‹_› | lia | omega))
            refine l_item (lst_is (D16.at 2 rfl)) hq (by rw [hvs'.len]; first | lia | omega) ?_
            (with_reducible refine sp_nil ?_)
            refine a_append (by assumption) 2 rfl (by rw [hvs'.len]; first | lia | omega) ?_
            intro s17 m17 D17
            refine k9 _ _ ?_
            refine ⟨fun a q => (by cases q), x_nil (x_nil (x_nil ?_))⟩
            refine z2 _ ?_
            refine ⟨sz - (j + 1), by first | decide | assumption | exact a1 ‹_› | exact a2 ‹_› | exact a3 ‹_› (by decide) | exact dl ‹_› | exact ee ‹_› ‹_› | lia | omega, j + 1, o2', _, _, rfl, hjs, ho2', ?_, Act.pre (r := [(Str.ofString "turn", .int (j : Int) tj)]) D17⟩
            rw [if_neg hx256]
            exact hvs'.app (Nats.one _ _)
        · have hjz : j = sz := by first | decide | assumption | exact a1 ‹_› | exact a2 ‹_› | exact a3 ‹_› (by decide) | exact dl ‹_› | exact ee ‹_› ‹_› | lia | omega
          subst hjz
          refine (It.range r.hh 0 1 j).end D13 0 rfl ho2 trivial ?_
          intro s14 D14
          refine x_nil ?_
          refine z1 _ ?_
          refine ⟨syms.length + 1 - (i + 1), by first | with_reducible exact s25 ‹_› ‹_› | lia | omega, i + 1, o', vs', m', rfl, by first | with_reducible exact s24 ‹_› ‹_› | lia | omega, ho', ?_, Act.pre (r := [(Str.ofString "k", .int (i : Int) tv), (Str.ofString "ended", .bool false), (Str.ofString "leaf", .bool (decide ((x : Int) < 256))), (Str.ofString "name", .bool (decide (256 ≤ (x : Int))))]) D14⟩
          show Nats vs' (readStep sizes (readTo syms sizes i) i (syms.getD i 0))
          unfold readStep
          rw [← hxs, ← hsz0]
          exact hvs'
end
noncomputable def okP (tx : List Nat) (at' e : Nat) : Bool := ((tx.take e).drop at' == List.replicate ((tx.take e).drop at').length (tx.getD at' 0)) || occ ((tx.take e).drop at') (tx.take (e - 1))
noncomputable def minL : List Nat → Nat
  | [] => 0
  | x :: r => r.foldl min x
noncomputable def waysTo (tx fs : List Nat) (at' : Nat) : Nat → List Nat
  | 0 => []
  | j + 1 => if okP tx at' (at' + 1 + j) then waysTo tx fs at' j ++ [fs.getD j 0] else waysTo tx fs at' j
noncomputable def fewL (tx : List Nat) : Nat → List Nat
  | 0 => [0]
  | k + 1 => (1 + minL (waysTo tx (fewL tx k) (tx.length - 1 - k) (k + 1))) :: fewL tx k
theorem fewL_len (tx : List Nat) : ∀ k, (fewL tx k).length = k + 1
  | 0 => rfl
  | k + 1 => by rewrite [fewL]; rw [List.length_cons, fewL_len tx k]
theorem waysTo_len (tx fs : List Nat) (at' : Nat) : ∀ j, (waysTo tx fs at' j).length ≤ j
  | 0 => Nat.le_refl _
  | j + 1 => by
    have := waysTo_len tx fs at' j
    rewrite [waysTo]
    split
    · rw [List.length_append]; simp; first | assumption | lia | omega
    · first | with_reducible exact Nat.le_succ_of_le ‹_› | lia | omega
theorem foldl_min (r : List Nat) : ∀ x, r.foldl min x ≤ x ∧ (∀ y ∈ r, r.foldl min x ≤ y) ∧ (r.foldl min x = x ∨ r.foldl min x ∈ r) := by
  induction r with
  | nil => intro x; exact ⟨Nat.le_refl _, (fun _ h => by cases h), .inl rfl⟩
  | cons a r ih =>
    intro x
    obtain ⟨h1, h2, h3⟩ := ih (min x a)
    refine ⟨Nat.le_trans h1 (Nat.min_le_left ..), fun y hy => ?_, ?_⟩
    · rcases List.mem_cons.mp hy with rfl | hy
      · exact Nat.le_trans h1 (Nat.min_le_right ..)
      · exact h2 y hy
    · rcases h3 with h3 | h3
      · rw [List.foldl_cons, h3]
        rcases Nat.le_total x a with h | h
        · exact .inl (Nat.min_eq_left h)
        · rw [Nat.min_eq_right h]; exact .inr (.head _)
      · exact .inr (List.mem_cons_of_mem _ h3)
theorem minL_is {ps : List Nat} {M : Nat} (h1 : M ∈ ps) (h2 : ∀ x ∈ ps, M ≤ x) : M = minL ps := by
  cases ps with
  | nil => cases h1
  | cons x r =>
    obtain ⟨a1, a2, a3⟩ := foldl_min r x
    show M = r.foldl min x
    apply Nat.le_antisymm
    · rcases a3 with a3 | a3
      · rw [a3]; exact h2 x (.head _)
      · exact h2 _ (List.mem_cons_of_mem _ a3)
    · rcases List.mem_cons.mp h1 with rfl | h1
      · exact a1
      · exact a2 M h1
theorem okP_one {tx : List Nat} {at' : Nat} (h : at' < tx.length) : okP tx at' (at' + 1) = true := by
  unfold okP
  have e : (tx.take (at' + 1)).drop at' = [tx.getD at' 0] := by
    rw [List.drop_take, show at' + 1 - at' = 1 by first | with_reducible exact Nat.add_sub_cancel_left .. | lia | omega, List.drop_eq_getElem_cons h, List.take_succ_cons, List.take_zero]
    simp [List.getD, h]
  rw [e]; simp
theorem waysTo_ne {tx fs : List Nat} {at' : Nat} (h : at' < tx.length) : ∀ j, waysTo tx fs at' (j + 1) ≠ []
  | 0 => by rewrite [waysTo]; rw [if_pos (by rw [Nat.add_zero]; exact okP_one h)]; simp
  | j + 1 => by
    have := waysTo_ne (fs := fs) h j
    rewrite [waysTo]
    split
    · simp
    · exact this
section
variable {w : World} {mg mb : Str → Option Value} {B : Heap} {A : Around} {s₀ s : Shared} {R : Result → Shared → Prop} {l : List (Str × Value)}
noncomputable abbrev fwO (wy : Addr) (ws : List Value) (mw : Nat) (I : Addr) (o : Obj) (y : Addr) (vs : List Value) (m : Nat) : List (Addr × Obj) := [(wy, lst ws mw), (I, o), (y, lst vs m)]
noncomputable abbrev fwL (tx : List Nat) (tt : Tok) (y : Addr) : List (Str × Value) := [(Str.ofString "text", .str (S tx) tt), (Str.ofString "fewest", .ref y)]
noncomputable abbrev fwW (tx : List Nat) (tt : Tok) (y : Addr) (p : Nat) (tv : Tok) (wy : Addr) : List (Str × Value) := [(Str.ofString "text", .str (S tx) tt), (Str.ofString "fewest", .ref y), (Str.ofString "at", .int (p : Int) tv), (Str.ofString "ways", .ref wy)]
noncomputable abbrev fwP (tx : List Nat) (tt : Tok) (y : Addr) (p : Nat) (tv : Tok) (wy : Addr) (e : Nat) (te : Tok) (pc : List Nat) (tpc : Tok) : List (Str × Value) := [(Str.ofString "text", .str (S tx) tt), (Str.ofString "fewest", .ref y), (Str.ofString "at", .int (p : Int) tv), (Str.ofString "ways", .ref wy), (Str.ofString "end", .int (e : Int) te), (Str.ofString "piece", .str (S pc) tpc)]
theorem fewest_spec (G : Gnd w mg mb B) (O : Ok B s.heap) (r : Room 4 A) {tx : List Nat} {tt : Tok} (hz : tx.length ≤ 100)
    (k : ∀ s' y vs n, Got s s' [(y, lst vs n)] → Nats vs (fewL tx tx.length) → R (.ok (.ret (.ref y))) s') :
    codeAny (model PR w) A (.call (.ref 121) ⟨[.str (S tx) tt], []⟩) R s := by
  refine enter (fd := F121.1) (binds := [(Str.ofString "text", .str (S tx) tt)]) G O r (F121.2 w) cd121 rfl (BindsTo.of_eq (by rfl)) (by decide) (locs rfl) ?_
  intro A s₁ D r
  refine x_assignK ?_
  intro K9 k9
  refine List_ ?_
  ((with_reducible refine sp_cons ?_ ?he); (case he => exact rfl))
  ((with_reducible refine' e_int ?D ?_); (case D => assumption); intro _ _ _)
  (with_reducible refine sp_nil ?_)
  refine n_list (by assumption) (by simp) ?_
  intro y s2 D2
  refine k9 _ _ ?_
  ((with_reducible refine' stL ?D ?_ ?hk ?hx ?hL); (case hL => exact rfl); (case D => assumption); (case hx => exact rfl); (case hk => exact rfl); intro _ _)
  refine x_forW (fun I n s' => ∃ i o vs m, n = tx.length - i ∧ i ≤ tx.length ∧ RI ((tx.length : Int) - 1) (-1) tx.length i o ∧ Nats vs (fewL tx i) ∧
    Act B s s.heap.objs.size (fwL tx tt y) [(I, o), (y, lst vs m)] T0 s') ?_ ?_
  · intro K9 k9
    (((with_reducible refine' fn_B boot_range ?G ?D b_range ?_ ?hs ?hc); (case hc => exact .inr ⟨_, rfl⟩)); (case hs => (repeat' apply And.intro) <;> exact rfl); (case G => assumption); (case D => assumption))
    ((with_reducible refine sp_cons ?_ ?he); (case he => exact rfl))
    (with_reducible refine wpAny_BinOp ?_)
    (((with_reducible refine' fn_B boot_len' ?G ?D b_len ?_ ?hs ?hc); (case hc => exact .inl ⟨_, rfl⟩)); (case hs => (repeat' apply And.intro) <;> exact rfl); (case G => assumption); (case D => assumption))
    ((with_reducible refine sp_cons ?_ ?he); (case he => exact rfl))
    ((with_reducible refine' nmQ ?D ?v ?_ ?o ?L); (case L => exact rfl); (case o => exact Eq.refl true); (case D => assumption); (case v => exact rfl))
    (with_reducible refine sp_nil ?_)
    refine t_len (by assumption) (by first | decide | assumption | exact a1 ‹_› | exact a2 ‹_› | exact a3 ‹_› (by decide) | exact dl ‹_› | exact ee ‹_› ‹_› | lia | omega) ?_
    intro s3 t3 D3
    ((with_reducible refine' e_int ?D ?_); (case D => assumption); intro _ _ _)
    refine o_sub (by assumption) ?_
    intro s4 t4 D4
    ((with_reducible refine sp_cons ?_ ?he); (case he => exact rfl))
    (with_reducible refine PyProof.Rows.UnaryOp_ ?_)
    ((with_reducible refine' e_int ?D ?_); (case D => assumption); intro _ _ _)
    ((with_reducible refine' o_neg ?D ?_); (case D => assumption); intro _ _ _)
    ((with_reducible refine sp_cons ?_ ?he); (case he => exact rfl))
    (with_reducible refine PyProof.Rows.UnaryOp_ ?_)
    ((with_reducible refine' e_int ?D ?_); (case D => assumption); intro _ _ _)
    ((with_reducible refine' o_neg ?D ?_); (case D => assumption); intro _ _ _)
    (with_reducible refine sp_nil ?_)
    refine r_3 (by first | decide | assumption | exact a1 ‹_› | exact a2 ‹_› | exact a3 ‹_› (by decide) | exact dl ‹_› | exact ee ‹_› ‹_› | lia | omega) (by assumption) ?_
    intro rr s5 t u v D5 hr
    refine i_r3 (n := tx.length) D5 hr (by first | decide | assumption | exact a1 ‹_› | exact a2 ‹_› | exact a3 ‹_› (by decide) | exact dl ‹_› | exact ee ‹_› ‹_› | lia | omega) ?_
    intro I o s6 ho D6
    exact k9 _ _ ⟨I, _, rfl, 0, o, _, _, rfl, Nat.zero_le _, ho, Nats.one 0 _, D6⟩
  · rintro I n s3 ⟨i, o, vs, m, rfl, hi, ho, hvs, D3⟩
    intro W1 z1 r1
    by_cases hlt : i < tx.length
    · refine (It.range r.hh _ _ tx.length).step D3 0 rfl ho trivial hlt ?_
      rintro v s4 o' ⟨tv, rfl⟩ ho' D4
      have e0 : ((tx.length : Int) - 1) + (i : Int) * (-1) = ((tx.length - 1 - i : Nat) : Int) := by first | with_reducible exact s44 ‹_› | lia | omega
      rw [e0]
      obtain ⟨p, hp0⟩ : ∃ p, p = tx.length - 1 - i := ⟨_, rfl⟩
      rw [← hp0]
      have hpl : p < tx.length := by first | decide | assumption | exact a1 ‹_› | exact a2 ‹_› | exact a3 ‹_› (by decide) | exact dl ‹_› | exact ee ‹_› ‹_› | lia | omega
      ((with_reducible refine' stL ?D ?_ ?hk ?hx ?hL); (case hL => exact rfl); (case D => assumption); (case hx => exact rfl); (case hk => exact rfl); intro _ _)
      refine x_assignK ?_
      intro K9 k9
      refine List_ ?_
      (with_reducible refine sp_nil ?_)
      refine n_list (by assumption) (by simp) ?_
      intro wy s5 D5
      refine k9 _ _ ?_
      ((with_reducible refine' stL ?D ?_ ?hk ?hx ?hL); (case hL => exact rfl); (case D => assumption); (case hx => exact rfl); (case hk => exact rfl); intro _ _)
      have hvl := hvs.len
      rw [fewL_len] at hvl
      refine x_forW (fun I2 n2 s' => ∃ j o2 ws mw, n2 = i + 1 - j ∧ j ≤ i + 1 ∧ RI ((p + 1 : Nat) : Int) 1 (tx.length + 1 - (p + 1)) j o2 ∧ Nats ws (waysTo tx (fewL tx i) p j) ∧
        Act B s s.heap.objs.size (fwW tx tt y p tv wy) ((I2, o2) :: fwO wy ws mw I o' y vs m) T0 s') ?_ ?_
      · intro K9 k9
        (((with_reducible refine' fn_B boot_range ?G ?D b_range ?_ ?hs ?hc); (case hc => exact .inr ⟨_, rfl⟩)); (case hs => (repeat' apply And.intro) <;> exact rfl); (case G => assumption); (case D => assumption))
        ((with_reducible refine sp_cons ?_ ?he); (case he => exact rfl))
        (with_reducible refine wpAny_BinOp ?_)
        ((with_reducible refine' nmQ ?D ?v ?_ ?o ?L); (case L => exact rfl); (case o => exact Eq.refl true); (case D => assumption); (case v => exact rfl))
        ((with_reducible refine' e_int ?D ?_); (case D => assumption); intro _ _ _)
        refine o_addK (k := ((p + 1 : Nat) : Int)) (by first | rfl | lia | omega) (by assumption) ?_
        intro s6 t6 D6
        ((with_reducible refine sp_cons ?_ ?he); (case he => exact rfl))
        (with_reducible refine wpAny_BinOp ?_)
        (((with_reducible refine' fn_B boot_len' ?G ?D b_len ?_ ?hs ?hc); (case hc => exact .inl ⟨_, rfl⟩)); (case hs => (repeat' apply And.intro) <;> exact rfl); (case G => assumption); (case D => assumption))
        ((with_reducible refine sp_cons ?_ ?he); (case he => exact rfl))
        ((with_reducible refine' nmQ ?D ?v ?_ ?o ?L); (case L => exact rfl); (case o => exact Eq.refl true); (case D => assumption); (case v => exact rfl))
        (with_reducible refine sp_nil ?_)
        refine t_len (by assumption) (by first | decide | assumption | exact a1 ‹_› | exact a2 ‹_› | exact a3 ‹_› (by decide) | exact dl ‹_› | exact ee ‹_› ‹_› | lia | omega) ?_
        intro s7 t7 D7
        ((with_reducible refine' e_int ?D ?_); (case D => assumption); intro _ _ _)
        refine o_addK (k := ((tx.length + 1 : Nat) : Int)) (by first | rfl | lia | omega) (by assumption) ?_
        intro s8 t8 D8
        (with_reducible refine sp_nil ?_)
        refine r_2 (by assumption) ?_
        intro rr s9 t u v D9 hr
        refine i_r2 (m := p + 1) (n := tx.length + 1) D9 hr (by first | exact Nat.lt_of_le_of_lt ‹_› (by decide) | lia | omega) (by first | with_reducible exact t71 ‹_› ‹_› | lia | omega) ?_
        intro I2 o2 s10 ho2 D10
        exact k9 _ _ ⟨I2, _, rfl, 0, o2, [], 0, rfl, Nat.zero_le _, ho2, .nil, D10⟩
      · rintro I2 n2 s6 ⟨j, o2, ws, mw, rfl, hj, ho2, hws, D6⟩
        intro W2 z2 r2
        have hwl := hws.len
        have hwt := waysTo_len tx (fewL tx i) p j
        by_cases hjl : j < i + 1
        · refine (It.range r.hh _ _ (tx.length + 1 - (p + 1))).step D6 0 rfl ho2 trivial (by first | with_reducible exact t16 ‹_› ‹_› ‹_› | lia | omega) ?_
          rintro v s7 o2' ⟨te, rfl⟩ ho2' D7
          have e1 : ((p + 1 : Nat) : Int) + (j : Int) * 1 = ((p + 1 + j : Nat) : Int) := by first | decide | assumption | exact a1 ‹_› | exact a2 ‹_› | exact a3 ‹_› (by decide) | exact dl ‹_› | exact ee ‹_› ‹_› | lia | omega
          rw [e1]
          clear e1
          obtain ⟨e, he0⟩ : ∃ e, e = p + 1 + j := ⟨_, rfl⟩
          rw [← he0]
          ((with_reducible refine' stL ?D ?_ ?hk ?hx ?hL); (case hL => exact rfl); (case D => assumption); (case hx => exact rfl); (case hk => exact rfl); intro _ _)
          refine x_assignK ?_
          intro K9 k9
          (with_reducible refine Subscript_ ?_)
          ((with_reducible refine' nmQ ?D ?v ?_ ?o ?L); (case L => exact rfl); (case o => exact Eq.refl true); (case D => assumption); (case v => exact rfl))
          refine wpAny_Slice ?_
          refine evalPart_some_step ?_
          ((with_reducible refine' nmQ ?D ?v ?_ ?o ?L); (case L => exact rfl); (case o => exact Eq.refl true); (case D => assumption); (case v => exact rfl))
          refine evalPart_some_step ?_
          ((with_reducible refine' nmQ ?D ?v ?_ ?o ?L); (case L => exact rfl); (case o => exact Eq.refl true); (case D => assumption); (case v => exact rfl))
          refine evalPart_none_step ?_
          refine t_ss (by assumption) (by first | decide | assumption | exact a1 ‹_› | exact a2 ‹_› | exact a3 ‹_› (by decide) | exact dl ‹_› | exact ee ‹_› ‹_› | lia | omega) ?_
          intro s8 tpc D8
          obtain ⟨pc, hpc⟩ : ∃ pc, pc = (tx.take e).drop p := ⟨_, rfl⟩
          rw [← hpc]
          have hpl2 : pc.length ≤ 100 := by rw [hpc, List.length_drop, List.length_take]; first | with_reducible exact s50 ‹_› | lia | omega
          refine k9 _ _ ?_
          ((with_reducible refine' stL ?D ?_ ?hk ?hx ?hL); (case hL => exact rfl); (case D => assumption); (case hx => exact rfl); (case hk => exact rfl); intro _ _)
          refine x_ifBK (okP tx p e) (fun s' => Act B s s.heap.objs.size (fwP tx tt y p tv wy e te pc tpc) ((I2, o2') :: fwO wy ws mw I o' y vs m) T0 s') ?_ ?_ ?_
          · intro K9 k9
            refine wpAny_isTrue_BoolOp ?_
            refine wpAny_allTrue_Or_cons ?_
            ((with_reducible refine wpAny_isTrue_Compare1 ?_ ?hm); (case hm => with_unfolding_all rfl))
            ((with_reducible refine' nmQ ?D ?v ?_ ?o ?L); (case L => exact rfl); (case o => exact Eq.refl true); (case D => assumption); (case v => exact rfl))
            (with_reducible refine wpAny_BinOp ?_)
            (with_reducible refine Subscript_ ?_)
            ((with_reducible refine' nmQ ?D ?v ?_ ?o ?L); (case L => exact rfl); (case o => exact Eq.refl true); (case D => assumption); (case v => exact rfl))
            ((with_reducible refine' nmQ ?D ?v ?_ ?o ?L); (case L => exact rfl); (case o => exact Eq.refl true); (case D => assumption); (case v => exact rfl))
            refine t_item (by assumption) (getD_some hpl) (by first | decide | assumption | exact a1 ‹_› | exact a2 ‹_› | exact a3 ‹_› (by decide) | exact dl ‹_› | exact ee ‹_› ‹_› | lia | omega) ?_
            intro s9 t9 D9
            (((with_reducible refine' fn_B boot_len' ?G ?D b_len ?_ ?hs ?hc); (case hc => exact .inl ⟨_, rfl⟩)); (case hs => (repeat' apply And.intro) <;> exact rfl); (case G => assumption); (case D => assumption))
            ((with_reducible refine sp_cons ?_ ?he); (case he => exact rfl))
            ((with_reducible refine' nmQ ?D ?v ?_ ?o ?L); (case L => exact rfl); (case o => exact Eq.refl true); (case D => assumption); (case v => exact rfl))
            (with_reducible refine sp_nil ?_)
            refine t_len (by assumption) (by first | decide | assumption | exact a1 ‹_› | exact a2 ‹_› | exact a3 ‹_› (by decide) | exact dl ‹_› | exact ee ‹_› ‹_› | lia | omega) ?_
            intro s10 t10 D10
            refine t_mul (by assumption) (by simp) (by first | decide | assumption | exact a1 ‹_› | exact a2 ‹_› | exact a3 ‹_› (by decide) | exact dl ‹_› | exact ee ‹_› ‹_› | lia | omega) ?_
            intro s11 t11 D11
            rw [rep_one]
            refine t_eq ?_
            (with_reducible refine wpAny_truthy_bool ?_)
            by_cases hc1 : (pc == List.replicate pc.length (tx.getD p 0)) = true
            · rw [if_pos hc1]
              exact k9 _ _ ⟨by unfold okP; rw [← hpc, hc1]; rfl, D11⟩
            · rw [if_neg hc1]
              refine wpAny_allTrue_Or_cons ?_
              ((with_reducible refine wpAny_isTrue_Compare1 ?_ ?hm); (case hm => with_unfolding_all rfl))
              ((with_reducible refine' nmQ ?D ?v ?_ ?o ?L); (case L => exact rfl); (case o => exact Eq.refl true); (case D => assumption); (case v => exact rfl))
              (with_reducible refine Subscript_ ?_)
              ((with_reducible refine' nmQ ?D ?v ?_ ?o ?L); (case L => exact rfl); (case o => exact Eq.refl true); (case D => assumption); (case v => exact rfl))
              refine wpAny_Slice ?_
              refine evalPart_none_step ?_
              refine evalPart_some_step ?_
              (with_reducible refine wpAny_BinOp ?_)
              ((with_reducible refine' nmQ ?D ?v ?_ ?o ?L); (case L => exact rfl); (case o => exact Eq.refl true); (case D => assumption); (case v => exact rfl))
              ((with_reducible refine' e_int ?D ?_); (case D => assumption); intro _ _ _)
              refine o_subK (k := ((e - 1 : Nat) : Int)) (by first | with_reducible exact t10 ‹_› | lia | omega) (by assumption) ?_
              intro s12 t12 D12
              refine evalPart_none_step ?_
              refine t_ns (by assumption) (by first | decide | assumption | exact a1 ‹_› | exact a2 ‹_› | exact a3 ‹_› (by decide) | exact dl ‹_› | exact ee ‹_› ‹_› | lia | omega) ?_
              intro s13 t13 D13
              refine t_in ?_
              (with_reducible refine wpAny_truthy_bool ?_)
              by_cases hc2 : occ pc (tx.take (e - 1)) = true
              · rw [if_pos hc2]
                exact k9 _ _ ⟨by unfold okP; rw [← hpc, hc2, Bool.or_true], D13⟩
              · rw [if_neg hc2]
                exact wpAny_allTrue_Or_nil (k9 _ _ ⟨by unfold okP; rw [← hpc, Bool.eq_false_iff.mpr hc1, Bool.eq_false_iff.mpr hc2]; rfl, D13⟩)
          · intro hb s9 D9
            refine x_exprK ?_
            intro K9 k9
            refine MethodCall_ ?_
            ((with_reducible refine' nmQ ?D ?v ?_ ?o ?L); (case L => exact rfl); (case o => exact Eq.refl true); (case D => assumption); (case v => exact rfl))
            refine m_list (Act.at (by assumption) 1 rfl) PySem.F.slot_list_append PySem.F.type_list_append ?_
            refine callWith_method1 ?_
            ((with_reducible refine sp_cons ?_ ?he); (case he => exact rfl))
            (with_reducible refine Subscript_ ?_)
            ((with_reducible refine' nmQ ?D ?v ?_ ?o ?L); (case L => exact rfl); (case o => exact Eq.refl true); (case D => assumption); (case v => exact rfl))
            (with_reducible refine wpAny_BinOp ?_)
            (with_reducible refine wpAny_BinOp ?_)
            ((with_reducible refine' nmQ ?D ?v ?_ ?o ?L); (case L => exact rfl); (case o => exact Eq.refl true); (case D => assumption); (case v => exact rfl))
            ((with_reducible refine' nmQ ?D ?v ?_ ?o ?L); (case L => exact rfl); (case o => exact Eq.refl true); (case D => assumption); (case v => exact rfl))
            refine o_subK (k := ((e - p : Nat) : Int)) (by first | with_reducible exact t17 ‹_› | lia | omega) (by assumption) ?_
            intro s10 t10 D10
            ((with_reducible refine' e_int ?D ?_); (case D => assumption); intro _ _ _)
            refine o_subK (k := (j : Int)) (by first | with_reducible exact t7 ‹_› | lia | omega) (by assumption) ?_
            intro s11 t11 D11
            obtain ⟨tq, hq⟩ := hvs.get (getD_some (l := fewL tx i) (i := j) (by rw [fewL_len]; first | assumption | lia | omega))
            refine l_item (lst_is (D11.at 3 rfl)) hq (by first | decide | assumption | exact a1 ‹_› | exact a2 ‹_› | exact a3 ‹_› (by decide) | exact dl ‹_› | exact ee ‹_› ‹_› | lia | omega) ?_
            (with_reducible refine sp_nil ?_)
            refine a_append (by assumption) 1 rfl (by first | decide | assumption | exact a1 ‹_› | exact a2 ‹_› | exact a3 ‹_› (by decide) | exact dl ‹_› | exact ee ‹_› ‹_› | lia | omega) ?_
            intro s12 m12 D12
            refine k9 _ _ ?_
            refine ⟨fun a q => (by cases q), x_nil (x_nil ?_)⟩
            refine z2 _ ?_
            refine ⟨i + 1 - (j + 1), by first | decide | assumption | exact a1 ‹_› | exact a2 ‹_› | exact a3 ‹_› (by decide) | exact dl ‹_› | exact ee ‹_› ‹_› | lia | omega, j + 1, o2', _, _, rfl, by first | decide | assumption | exact a1 ‹_› | exact a2 ‹_› | exact a3 ‹_› (by decide) | exact dl ‹_› | exact ee ‹_› ‹_› | lia | omega, ho2', ?_, Act.pre (r := [(Str.ofString "end", .int (e : Int) te), (Str.ofString "piece", .str (S pc) tpc)]) D12⟩
            rewrite [waysTo]
            rw [← he0, if_pos hb]
            exact hws.app (Nats.one _ _)
          · intro hb s9 D9
            refine x_nil (x_nil ?_)
            refine z2 _ ?_
            refine ⟨i + 1 - (j + 1), by first | decide | assumption | exact a1 ‹_› | exact a2 ‹_› | exact a3 ‹_› (by decide) | exact dl ‹_› | exact ee ‹_› ‹_› | lia | omega, j + 1, o2', _, _, rfl, by first | decide | assumption | exact a1 ‹_› | exact a2 ‹_› | exact a3 ‹_› (by decide) | exact dl ‹_› | exact ee ‹_› ‹_› | lia | omega, ho2', ?_, Act.pre (r := [(Str.ofString "end", .int (e : Int) te), (Str.ofString "piece", .str (S pc) tpc)]) D9⟩
            rewrite [waysTo]
            rw [← he0, if_neg (by rw [hb]; decide)]
            exact hws
        · have hji : j = i + 1 := by first | decide | assumption | exact a1 ‹_› | exact a2 ‹_› | exact a3 ‹_› (by decide) | exact dl ‹_› | exact ee ‹_› ‹_› | lia | omega
          subst hji
          refine (It.range r.hh _ _ (tx.length + 1 - (p + 1))).end D6 0 rfl (by rw [show tx.length + 1 - (p + 1) = i + 1 by first | with_reducible exact t15 ‹_› ‹_› | lia | omega] at ho2 ⊢; exact ho2) trivial ?_
          intro s7 D7
          refine x_exprK ?_
          intro K9 k9
          refine MethodCall_ ?_
          ((with_reducible refine' nmQ ?D ?v ?_ ?o ?L); (case L => exact rfl); (case o => exact Eq.refl true); (case D => assumption); (case v => exact rfl))
          refine m_list (Act.at (by assumption) 2 rfl) PySem.F.slot_list_insert PySem.F.type_list_insert ?_
          refine callWith_method1 ?_
          ((with_reducible refine sp_cons ?_ ?he); (case he => exact rfl))
          ((with_reducible refine' e_int ?D ?_); (case D => assumption); intro _ _ _)
          ((with_reducible refine sp_cons ?_ ?he); (case he => exact rfl))
          (with_reducible refine wpAny_BinOp ?_)
          ((with_reducible refine' e_int ?D ?_); (case D => assumption); intro _ _ _)
          (((with_reducible refine' fn_B boot_min ?G ?D b_min ?_ ?hs ?hc); (case hc => exact .inl ⟨_, rfl⟩)); (case hs => (repeat' apply And.intro) <;> exact rfl); (case G => assumption); (case D => assumption))
          ((with_reducible refine sp_cons ?_ ?he); (case he => exact rfl))
          ((with_reducible refine' nmQ ?D ?v ?_ ?o ?L); (case L => exact rfl); (case o => exact Eq.refl true); (case D => assumption); (case v => exact rfl))
          (with_reducible refine sp_nil ?_)
          refine c_min (by assumption) r.hh (lst_is (Act.at (by assumption) 0 rfl)) hws (waysTo_ne hpl i) ?_
          intro s8 t8 M D8 hM1 hM2
          refine o_addK (k := ((1 + M : Nat) : Int)) (by first | rfl | lia | omega) (by assumption) ?_
          intro s9 t9 D9
          (with_reducible refine sp_nil ?_)
          refine a_insert (by assumption) 2 rfl (by first | decide | assumption | exact a1 ‹_› | exact a2 ‹_› | exact a3 ‹_› (by decide) | exact dl ‹_› | exact ee ‹_› ‹_› | lia | omega) 0 (by rfl) (Nat.zero_le _) ?_
          intro s10 m10 D10
          refine k9 _ _ ?_
          refine ⟨fun a q => (by cases q), x_nil ?_⟩
          refine z1 _ ?_
          refine ⟨tx.length - (i + 1), by first | decide | assumption | exact a1 ‹_› | exact a2 ‹_› | exact a3 ‹_› (by decide) | exact dl ‹_› | exact ee ‹_› ‹_› | lia | omega, i + 1, o', _, _, rfl, by first | decide | assumption | exact a1 ‹_› | exact a2 ‹_› | exact a3 ‹_› (by decide) | exact dl ‹_› | exact ee ‹_› ‹_› | lia | omega, ho', ?_, Act.pre (r := [(Str.ofString "at", .int (p : Int) tv), (Str.ofString "ways", .ref wy)]) (D10.erase 0)⟩
          rewrite [fewL]
          rw [← hp0, ← minL_is hM1 hM2]
          exact (Nats.one (1 + M) _).app hvs
    · have hie : i = tx.length := by first | decide | assumption | exact a1 ‹_› | exact a2 ‹_› | exact a3 ‹_› (by decide) | exact dl ‹_› | exact ee ‹_› ‹_› | lia | omega
      subst hie
      refine (It.range r.hh _ _ tx.length).end D3 0 rfl ho trivial ?_
      intro s4 D4
      refine x_ret ?_
      ((with_reducible refine' nmQ ?D ?v ?_ ?o ?L); (case L => exact rfl); (case o => exact Eq.refl true); (case D => assumption); (case v => exact rfl))
      exact k _ y vs m D4.got hvs
end
noncomputable abbrev KeyF (f : Addr) (tx : List Nat) (sz : Nat) : Heap → Prop := fun h => f ≠ 102 ∧ IsKey h f tx sz
theorem KeyF.kept (f : Addr) (tx : List Nat) (sz : Nat) : Kept (KeyF f tx sz) := fun h h' x ⟨hf, hk⟩ => by
  obtain ⟨c, ctv, pm, c1, c2, t1, t2, ho, hc, ⟨c', oc, vs, t, e1, e2, e3, e4⟩, ⟨o1, a1, b1, n1⟩, ⟨o2, a2, b2, n2⟩⟩ := hk
  cases e1
  exact ⟨hf, c, ctv, pm, c1, c2, t1, t2, x _ _ hf (.inl ⟨_, rfl⟩) ho, hc, ⟨c, oc, vs, t, rfl, x _ _ hc (.inr (.inr ⟨_, _, _, e3, e4⟩)) e2, e3, e4⟩, ⟨o1, x _ _ n1 (.inr (.inl ⟨_, b1⟩)) a1, b1, n1⟩, ⟨o2, x _ _ n2 (.inr (.inl ⟨_, b2⟩)) a2, b2, n2⟩⟩
noncomputable def lspot (tx : List Nat) (ps : List Nat) (p : Nat) : Nat := bis (fun i => decide (keyOf tx tx.length (ps.getD i 0) < tx.drop p)) ps.length 0 ps.length
noncomputable def rspot (tx : List Nat) (ps : List Nat) (p : Nat) : Nat := bis (fun i => !decide (tx.drop p < keyOf tx tx.length (ps.getD i 0))) ps.length 0 ps.length
noncomputable def laidTo (tx : List Nat) (sz : Nat) : Nat → List Nat
  | 0 => []
  | i + 1 => (laidTo tx sz i).take (insAt tx sz (laidTo tx sz i) i) ++ i :: (laidTo tx sz i).drop (insAt tx sz (laidTo tx sz i) i)
noncomputable def runW (tx : List Nat) (p : Nat) : Nat → Nat → Nat
  | 0, r => r
  | f + 1, r => if (tx.take (p + r + 1)).drop p = List.replicate (r + 1) (tx.getD p 0) then runW tx p f (r + 1) else r
noncomputable def comW (tx : List Nat) (q p : Nat) : Nat → Nat → Nat
  | 0, z => z
  | f + 1, z => if p + z < tx.length ∧ tx.getD (q + z) 0 = tx.getD (p + z) 0 then comW tx q p f (z + 1) else z
noncomputable def nearMax (tx : List Nat) (p : Nat) (qs : List Nat) (r : Nat) : Nat := qs.foldl (fun r q => max r (comW tx q p tx.length 0)) r
noncomputable def reachOf (tx : List Nat) (ps : List Nat) (p : Nat) : Nat := nearMax tx p ((ps.take (lspot tx ps p + 1)).drop (lspot tx ps p - 1)) (runW tx p tx.length 1)
noncomputable def reachTo (tx : List Nat) : Nat → List Nat
  | 0 => []
  | i + 1 => reachTo tx i ++ [reachOf tx (laidTo tx tx.length i) i]
theorem laidTo_len (tx : List Nat) (sz : Nat) : ∀ i, (laidTo tx sz i).length = i
  | 0 => rfl
  | i + 1 => by
    have ih := laidTo_len tx sz i
    rewrite [laidTo]
    rw [List.length_append, List.length_cons, List.length_take, List.length_drop, ih]
    have : insAt tx sz (laidTo tx sz i) i ≤ i := by
      have := bis_le (fun j => decide (keyOf tx sz ((laidTo tx sz i).getD j 0) < keyOf tx sz i)) (laidTo tx sz i).length 0 (laidTo tx sz i).length (Nat.zero_le _)
      rw [ih] at this
      show bis _ (laidTo tx sz i).length 0 (laidTo tx sz i).length ≤ i
      rw [ih]
      exact this
    first | with_reducible exact t13 ‹_› | lia | omega
theorem laidTo_lt (tx : List Nat) (sz : Nat) : ∀ i, ∀ q ∈ laidTo tx sz i, q < i
  | 0, q, h => by cases h
  | i + 1, q, h => by
    rewrite [laidTo] at h
    rcases List.mem_append.mp h with h | h
    · exact Nat.lt_succ_of_lt (laidTo_lt tx sz i q (List.mem_of_mem_take h))
    · rcases List.mem_cons.mp h with rfl | h
      · exact Nat.lt_succ_self _
      · exact Nat.lt_succ_of_lt (laidTo_lt tx sz i q (List.mem_of_mem_drop h))
theorem reachTo_len (tx : List Nat) : ∀ i, (reachTo tx i).length = i
  | 0 => rfl
  | i + 1 => by rewrite [reachTo]; rw [List.length_append, reachTo_len tx i]; rfl
section
variable {B hs h h' : Heap} {L a : Addr} {l : List (Str × Value)} {N : List (Addr × Obj)} {P : Heap → Prop} {oa oa' : Obj}
theorem Hp.renewP (D : Hp B hs L l N P h) (i : Nat) (hi : N[i]? = some (a, oa)) (hd : ¬ Hard oa) (s : ∀ c oc, c ≠ 102 → c ≠ a → h.get? c = some oc → h'.get? c = some oc) (ha : h'.get? a = some oa') (t : TabOk h') : Hp B hs L l (N.set i (a, oa')) P h' :=
  { Hp.renew1 { D with kept := Kept.t0, fact := trivial } i hi s ha t with
    kept := D.kept
    fact := D.kept _ _ (fun b o hb hh e => s b o hb (fun q => by
      subst q
      have := D.at i hi
      rw [e] at this; cases this
      exact hd hh) e) D.fact }
end
section
variable {w : World} {mg mb : Str → Option Value} {B : Heap} {A : Around} {s₀ s s' : Shared} {R : Result → Shared → Prop} {L a : Addr} {l : List (Str × Value)} {N : List (Addr × Obj)} {P : Heap → Prop} {xs ys : List Value} {n n' : Nat}
theorem Act.inserted (D : Act B s₀ L l N P s) (i : Nat) (hi : N[i]? = some (a, lst xs n)) (x : Like s s') (t : TabOk s'.heap) (kp : ∀ b o, b ≠ 102 → b ≠ a → s.heap.get? b = some o → s'.heap.get? b = some o) (e : s'.heap.get? a = some (lst ys n')) : Act B s₀ L l (N.set i (a, lst ys n')) P s' :=
  ⟨D.hp.renewP i hi (hard_seq rfl) kp e t, D.like.trans x⟩
theorem o_iaddK {t u : Tok} {i j k : Int} {Q : Value → Shared → Prop} (hk : i + j = k) (D : Act B s₀ L l N P s) (h : ∀ s' t, Act B s₀ L l N P s' → Q (.int k t) s') : wpAny (model PR w) A (inplaceOp .Add (.int i t) (.int j u)) Q no s :=
  PyProof.Rows.iadd_int (hk ▸ h _ _ (D.tok _))
noncomputable abbrev hvO (x : Addr) (y : Addr) (z : Addr) (us : List Value) (vs : List Value) (ws : List Value) (n1 : Nat) (n2 : Nat) (n3 : Nat) : List (Addr × Obj) := [(z, lst ws n3), (y, lst vs n2), (x, lst us n1)]
noncomputable abbrev hvL (tx : List Nat) (tt : Tok) (f : Addr) (x : Addr) (y : Addr) (z : Addr) : List (Str × Value) := [(Str.ofString "text", .str (S tx) tt), (Str.ofString "whole", .ref f), (Str.ofString "laid", .ref x), (Str.ofString "heads", .ref y), (Str.ofString "reaches", .ref z)]
noncomputable abbrev hvA (tx : List Nat) (tt : Tok) (f : Addr) (x : Addr) (y : Addr) (z : Addr) (i : Nat) (tv : Tok) (rr : Nat) (t : Tok) : List (Str × Value) := [(Str.ofString "text", .str (S tx) tt), (Str.ofString "whole", .ref f), (Str.ofString "laid", .ref x), (Str.ofString "heads", .ref y), (Str.ofString "reaches", .ref z), (Str.ofString "at", .int (i : Int) tv), (Str.ofString "reach", .int (rr : Nat) t)]
noncomputable abbrev hvS (tx : List Nat) (tt : Tok) (f : Addr) (x : Addr) (y : Addr) (z : Addr) (i : Nat) (tv : Tok) (rr : Nat) (t : Tok) (sp : Nat) (t1 : Tok) : List (Str × Value) := [(Str.ofString "text", .str (S tx) tt), (Str.ofString "whole", .ref f), (Str.ofString "laid", .ref x), (Str.ofString "heads", .ref y), (Str.ofString "reaches", .ref z), (Str.ofString "at", .int (i : Int) tv), (Str.ofString "reach", .int (rr : Nat) t), (Str.ofString "spot", .int (sp : Nat) t1)]
noncomputable abbrev hvN (tx : List Nat) (tt : Tok) (f : Addr) (x : Addr) (y : Addr) (z : Addr) (i : Nat) (tv : Tok) (rr : Nat) (t : Tok) (sp : Nat) (t1 : Tok) (q : Nat) (tq : Tok) (zz : Nat) (tz : Tok) : List (Str × Value) := [(Str.ofString "text", .str (S tx) tt), (Str.ofString "whole", .ref f), (Str.ofString "laid", .ref x), (Str.ofString "heads", .ref y), (Str.ofString "reaches", .ref z), (Str.ofString "at", .int (i : Int) tv), (Str.ofString "reach", .int (rr : Nat) t), (Str.ofString "spot", .int (sp : Nat) t1), (Str.ofString "near", .int (q : Int) tq), (Str.ofString "size", .int (zz : Nat) tz)]
theorem halved_spec (G : Gnd w mg mb B) (O : Ok B s.heap) (r : Room 7 A) {tx : List Nat} {tt : Tok} (hz : tx.length ≤ 100)
    (hok : ∀ i, i < tx.length → rspot tx (laidTo tx tx.length i) i = lspot tx (laidTo tx tx.length i) i)
    (k : ∀ s' tp x y z us vs ws n1 n2 n3, Got s s' ((tp, tup [.ref x, .ref y, .ref z] 0) :: hvO x y z us vs ws n1 n2 n3) → Nats us (laidTo tx tx.length tx.length) → Nats vs (laidTo tx 1 tx.length) → Nats ws (reachTo tx tx.length) → R (.ok (.ret (.ref tp))) s') :
    codeAny (model PR w) A (.call (.ref 114) ⟨[.str (S tx) tt], []⟩) R s := by
  refine enter (fd := F114.1) (binds := [(Str.ofString "text", .str (S tx) tt)]) G O r (F114.2 w) cd114 rfl (BindsTo.of_eq (by rfl)) (by decide) (locs rfl) ?_
  intro A s₁ D r
  refine x_assignK ?_
  intro K9 k9
  ((with_reducible refine' fn_Q ?G ?D g107 F107.2 ?_ ?hs ?he); (case hs => exact Eq.refl true); (case he => exact rfl); (case G => assumption); (case D => assumption))
  ((with_reducible refine sp_cons ?_ ?he); (case he => exact rfl))
  ((with_reducible refine' nmQ ?D ?v ?_ ?o ?L); (case L => exact rfl); (case o => exact Eq.refl true); (case D => assumption); (case v => exact rfl))
  ((with_reducible refine sp_cons ?_ ?he); (case he => exact rfl))
  (((with_reducible refine' fn_B boot_len' ?G ?D b_len ?_ ?hs ?hc); (case hc => exact .inl ⟨_, rfl⟩)); (case hs => (repeat' apply And.intro) <;> exact rfl); (case G => assumption); (case D => assumption))
  ((with_reducible refine sp_cons ?_ ?he); (case he => exact rfl))
  ((with_reducible refine' nmQ ?D ?v ?_ ?o ?L); (case L => exact rfl); (case o => exact Eq.refl true); (case D => assumption); (case v => exact rfl))
  (with_reducible refine sp_nil ?_)
  refine t_len (by assumption) (by first | decide | assumption | exact a1 ‹_› | exact a2 ‹_› | exact a3 ‹_› (by decide) | exact dl ‹_› | exact ee ‹_› ‹_› | lia | omega) ?_
  intro s2 t2 D2
  (with_reducible refine sp_nil ?_)
  refine ⟨D2.ok, ?_⟩
  refine front_spec (tx := tx) (sz := tx.length) G D2.ok (r.weak (by decide)) ?_
  intro s3 f X3 hf hk3
  have D3 := (D2.aft X3).know (KeyF.kept f tx tx.length) ⟨hk3.ne X3.tab, hk3⟩
  refine k9 _ _ ?_
  refine stL D3 ?_ rfl rfl
  intro s4 D4
  refine x_assignK ?_
  intro K9 k9
  refine List_ ?_
  (with_reducible refine sp_nil ?_)
  refine n_list D4 (by simp) ?_
  intro x s5 D5
  refine k9 _ _ ?_
  ((with_reducible refine' stL ?D ?_ ?hk ?hx ?hL); (case hL => exact rfl); (case D => assumption); (case hx => exact rfl); (case hk => exact rfl); intro _ _)
  refine x_assignK ?_
  intro K9 k9
  refine List_ ?_
  (with_reducible refine sp_nil ?_)
  refine n_list (by assumption) (by simp) ?_
  intro y s6 D6
  refine k9 _ _ ?_
  ((with_reducible refine' stL ?D ?_ ?hk ?hx ?hL); (case hL => exact rfl); (case D => assumption); (case hx => exact rfl); (case hk => exact rfl); intro _ _)
  refine x_assignK ?_
  intro K9 k9
  refine List_ ?_
  (with_reducible refine sp_nil ?_)
  refine n_list (by assumption) (by simp) ?_
  intro z s7 D7
  refine k9 _ _ ?_
  ((with_reducible refine' stL ?D ?_ ?hk ?hx ?hL); (case hL => exact rfl); (case D => assumption); (case hx => exact rfl); (case hk => exact rfl); intro _ _)
  refine x_forW (fun I n s' => ∃ i o us vs ws n1 n2 n3, n = tx.length - i ∧ i ≤ tx.length ∧ RI 0 1 tx.length i o ∧ Nats us (laidTo tx tx.length i) ∧ Nats vs (laidTo tx 1 i) ∧ Nats ws (reachTo tx i) ∧
    Act B s s.heap.objs.size (hvL tx tt f x y z) ((I, o) :: hvO x y z us vs ws n1 n2 n3) (KeyF f tx tx.length) s') ?_ ?_
  · intro K9 k9
    (((with_reducible refine' fn_B boot_range ?G ?D b_range ?_ ?hs ?hc); (case hc => exact .inr ⟨_, rfl⟩)); (case hs => (repeat' apply And.intro) <;> exact rfl); (case G => assumption); (case D => assumption))
    ((with_reducible refine sp_cons ?_ ?he); (case he => exact rfl))
    (((with_reducible refine' fn_B boot_len' ?G ?D b_len ?_ ?hs ?hc); (case hc => exact .inl ⟨_, rfl⟩)); (case hs => (repeat' apply And.intro) <;> exact rfl); (case G => assumption); (case D => assumption))
    ((with_reducible refine sp_cons ?_ ?he); (case he => exact rfl))
    ((with_reducible refine' nmQ ?D ?v ?_ ?o ?L); (case L => exact rfl); (case o => exact Eq.refl true); (case D => assumption); (case v => exact rfl))
    (with_reducible refine sp_nil ?_)
    refine t_len (by assumption) (by first | decide | assumption | exact a1 ‹_› | exact a2 ‹_› | exact a3 ‹_› (by decide) | exact dl ‹_› | exact ee ‹_› ‹_› | lia | omega) ?_
    intro s8 t8 D8
    (with_reducible refine sp_nil ?_)
    refine r_1 (by assumption) ?_
    intro rr s9 t u v D9 hr
    refine i_r1 (n := tx.length) D9 hr (by first | decide | assumption | exact a1 ‹_› | exact a2 ‹_› | exact a3 ‹_› (by decide) | exact dl ‹_› | exact ee ‹_› ‹_› | lia | omega) ?_
    intro I o s10 ho D10
    exact k9 _ _ ⟨I, _, rfl, 0, o, [], [], [], 0, 0, 0, rfl, Nat.zero_le _, ho, .nil, .nil, .nil, D10⟩
  · rintro I n s8 ⟨i, o, us, vs, ws, n1, n2, n3, rfl, hi, ho, hus, hvs, hws, D8⟩
    intro W1 z1 r1
    by_cases hlt : i < tx.length
    · refine (It.range r.hh 0 1 tx.length).step D8 0 rfl ho trivial hlt ?_
      rintro v s9 o' ⟨tv, rfl⟩ ho' D9
      have e0 : (0 : Int) + (i : Int) * 1 = (i : Int) := by first | decide | assumption | exact a1 ‹_› | exact a2 ‹_› | exact a3 ‹_› (by decide) | exact dl ‹_› | exact ee ‹_› ‹_› | lia | omega
      rw [e0]
      ((with_reducible refine' stL ?D ?_ ?hk ?hx ?hL); (case hL => exact rfl); (case D => assumption); (case hx => exact rfl); (case hk => exact rfl); intro _ _)
      refine x_assignK ?_
      intro K9 k9
      ((with_reducible refine' e_int ?D ?_); (case D => assumption); intro _ _ _)
      refine k9 _ _ ?_
      ((with_reducible refine' stL ?D ?_ ?hk ?hx ?hL); (case hL => exact rfl); (case D => assumption); (case hx => exact rfl); (case hk => exact rfl); intro _ _)
      refine x_whileW (fun m s' => ∃ rr t, rr + m = tx.length + 1 ∧ 1 ≤ rr ∧ runW tx i m rr = runW tx i tx.length 1 ∧ Act B s s.heap.objs.size (hvA tx tt f x y z i tv rr t) ((I, o') :: hvO x y z us vs ws n1 n2 n3) (KeyF f tx tx.length) s') ?_ tx.length ⟨1, _, by first | with_reducible exact Nat.add_comm .. | lia | omega, Nat.le_refl _, rfl, by assumption⟩
      rintro m s10 ⟨rr, tr, hrm, hr1, hrun, D10⟩
      intro W2 z2 r2 K8 k8
      have hsl : ((tx.take (i + rr + 1)).drop i).length ≤ tx.length := by rw [List.length_drop, List.length_take]; first | with_reducible exact t6 | lia | omega
      ((with_reducible refine wpAny_isTrue_Compare1 ?_ ?hm); (case hm => with_unfolding_all rfl))
      (with_reducible refine Subscript_ ?_)
      ((with_reducible refine' nmQ ?D ?v ?_ ?o ?L); (case L => exact rfl); (case o => exact Eq.refl true); (case D => assumption); (case v => exact rfl))
      refine wpAny_Slice ?_
      refine evalPart_some_step ?_
      ((with_reducible refine' nmQ ?D ?v ?_ ?o ?L); (case L => exact rfl); (case o => exact Eq.refl true); (case D => assumption); (case v => exact rfl))
      refine evalPart_some_step ?_
      (with_reducible refine wpAny_BinOp ?_)
      (with_reducible refine wpAny_BinOp ?_)
      ((with_reducible refine' nmQ ?D ?v ?_ ?o ?L); (case L => exact rfl); (case o => exact Eq.refl true); (case D => assumption); (case v => exact rfl))
      ((with_reducible refine' nmQ ?D ?v ?_ ?o ?L); (case L => exact rfl); (case o => exact Eq.refl true); (case D => assumption); (case v => exact rfl))
      refine o_addK (k := ((i + rr : Nat) : Int)) (by first | rfl | lia | omega) (by assumption) ?_
      intro s11 t11 D11
      ((with_reducible refine' e_int ?D ?_); (case D => assumption); intro _ _ _)
      refine o_addK (k := ((i + rr + 1 : Nat) : Int)) (by first | rfl | lia | omega) (by assumption) ?_
      intro s12 t12 D12
      refine evalPart_none_step ?_
      refine t_ss (by assumption) (by first | decide | assumption | exact a1 ‹_› | exact a2 ‹_› | exact a3 ‹_› (by decide) | exact dl ‹_› | exact ee ‹_› ‹_› | lia | omega) ?_
      intro s13 t13 D13
      (with_reducible refine wpAny_BinOp ?_)
      (with_reducible refine Subscript_ ?_)
      ((with_reducible refine' nmQ ?D ?v ?_ ?o ?L); (case L => exact rfl); (case o => exact Eq.refl true); (case D => assumption); (case v => exact rfl))
      ((with_reducible refine' nmQ ?D ?v ?_ ?o ?L); (case L => exact rfl); (case o => exact Eq.refl true); (case D => assumption); (case v => exact rfl))
      refine t_item (by assumption) (getD_some hlt) (by first | decide | assumption | exact a1 ‹_› | exact a2 ‹_› | exact a3 ‹_› (by decide) | exact dl ‹_› | exact ee ‹_› ‹_› | lia | omega) ?_
      intro s14 t14 D14
      (with_reducible refine wpAny_BinOp ?_)
      ((with_reducible refine' nmQ ?D ?v ?_ ?o ?L); (case L => exact rfl); (case o => exact Eq.refl true); (case D => assumption); (case v => exact rfl))
      ((with_reducible refine' e_int ?D ?_); (case D => assumption); intro _ _ _)
      refine o_addK (k := ((rr + 1 : Nat) : Int)) (by first | rfl | lia | omega) (by assumption) ?_
      intro s15 t15 D15
      refine t_mul (by assumption) (by simp) (by first | decide | assumption | exact a1 ‹_› | exact a2 ‹_› | exact a3 ‹_› (by decide) | exact dl ‹_› | exact ee ‹_› ‹_› | lia | omega) ?_
      intro s16 t16 D16
      rw [rep_one]
      refine t_eq ?_
      (with_reducible refine wpAny_truthy_bool ?_)
      refine k8 _ _ ?_
      refine ⟨fun h => ?_, fun h => ?_⟩
      · have h : (tx.take (i + rr + 1)).drop i = List.replicate (rr + 1) (tx.getD i 0) := by simpa using h
        obtain ⟨m, rfl⟩ : ∃ m', m = m' + 1 := ⟨m - 1, by have := congrArg List.length h; rw [List.length_replicate] at this; first | with_reducible exact t44 ‹_› ‹_› ‹_› | lia | omega⟩
        refine x_aug ?_
        refine ldL D16 rfl ?_ rfl rfl
        ((with_reducible refine' e_int ?D ?_); (case D => assumption); intro _ _ _)
        refine o_iaddK (k := ((rr + 1 : Nat) : Int)) (by first | rfl | lia | omega) (by assumption) ?_
        intro s17 t17 D17
        ((with_reducible refine' stL ?D ?_ ?hk ?hx ?hL); (case hL => exact rfl); (case D => assumption); (case hx => exact rfl); (case hk => exact rfl); intro _ _)
        refine x_nil ?_
        refine z2 _ ?_
        refine ⟨m, by first | decide | assumption | exact a1 ‹_› | exact a2 ‹_› | exact a3 ‹_› (by decide) | exact dl ‹_› | exact ee ‹_› ‹_› | lia | omega, rr + 1, t17, by first | decide | assumption | exact a1 ‹_› | exact a2 ‹_› | exact a3 ‹_› (by decide) | exact dl ‹_› | exact ee ‹_› ‹_› | lia | omega, by first | with_reducible exact Nat.le_add_left .. | lia | omega, ?_, by assumption⟩
        rw [← hrun]
        conv => rhs; rewrite [runW]
        rw [if_pos h]
      · have h : ¬ (tx.take (i + rr + 1)).drop i = List.replicate (rr + 1) (tx.getD i 0) := by simpa using h
        have hrr : rr = runW tx i tx.length 1 := by
          rw [← hrun]
          cases m with
          | zero => rfl
          | succ m => rewrite [runW]; rw [if_neg h]
        have hll := laidTo_len tx tx.length i
        refine x_assignK ?_
        intro K9 k9
        refine wpAny_Call_Name_kw ?_
        refine nmG G (by assumption) g62 ?_
        refine c_fnk G F62.2 ?_
        ((with_reducible refine sp_cons ?_ ?he); (case he => exact rfl))
        ((with_reducible refine' nmQ ?D ?v ?_ ?o ?L); (case L => exact rfl); (case o => exact Eq.refl true); (case D => assumption); (case v => exact rfl))
        ((with_reducible refine sp_cons ?_ ?he); (case he => exact rfl))
        ((with_reducible refine' fn_Q ?G ?D g69 F69.2 ?_ ?hs ?he); (case hs => exact Eq.refl true); (case he => exact rfl); (case G => assumption); (case D => assumption))
        ((with_reducible refine sp_cons ?_ ?he); (case he => exact rfl))
        (with_reducible refine Subscript_ ?_)
        ((with_reducible refine' nmQ ?D ?v ?_ ?o ?L); (case L => exact rfl); (case o => exact Eq.refl true); (case D => assumption); (case v => exact rfl))
        refine wpAny_Slice ?_
        refine evalPart_some_step ?_
        ((with_reducible refine' nmQ ?D ?v ?_ ?o ?L); (case L => exact rfl); (case o => exact Eq.refl true); (case D => assumption); (case v => exact rfl))
        refine evalPart_none_step ?_
        refine evalPart_none_step ?_
        refine t_sn (by assumption) (by first | decide | assumption | exact a1 ‹_› | exact a2 ‹_› | exact a3 ‹_› (by decide) | exact dl ‹_› | exact ee ‹_› ‹_› | lia | omega) ?_
        intro s17 t17 D17
        (with_reducible refine sp_nil ?_)
        refine ⟨D17.ok, ?_⟩
        refine strx_spec G D17.ok (r.weak (by decide)) ?_
        intro s18 X18
        have D18 := D17.aft X18
        (with_reducible refine sp_nil ?_)
        (with_reducible refine kw_cons ?_)
        ((with_reducible refine' nmQ ?D ?v ?_ ?o ?L); (case L => exact rfl); (case o => exact Eq.refl true); (case D => assumption); (case v => exact rfl))
        (with_reducible refine kw_nil ?_)
        refine ⟨D18.ok, ?_⟩
        refine bisL_key (lo := 0) (hi := (laidTo tx tx.length i).length) (tx := tx) (sz := tx.length) G D18.ok (r.weak (by decide)) (bL2 (G.In D18.ok)) (lst_is (D18.at 3 rfl)) hus (by rw [laidTo_len]; first | lia | omega) (by first | decide | assumption | exact a1 ‹_› | exact a2 ‹_› | exact a3 ‹_› (by decide) | exact dl ‹_› | exact ee ‹_› ‹_› | lia | omega) D18.fact.2 (.inl ⟨rfl, rfl⟩) (Nat.le_refl _) ?_
        intro s19 t19 X19
        have D19 := D18.aft X19
        refine k9 _ _ ?_
        refine stL D19 ?_ rfl rfl
        intro s20 D20
        have D20 : Act B s s.heap.objs.size (hvS tx tt f x y z i tv rr tr (lspot tx (laidTo tx tx.length i) i) t19) ((I, o') :: hvO x y z us vs ws n1 n2 n3) (KeyF f tx tx.length) s20 := D20
        obtain ⟨sp, hsp⟩ : ∃ sp, sp = lspot tx (laidTo tx tx.length i) i := ⟨_, rfl⟩
        have hsple : sp ≤ i := by
          have := bis_le (fun j => decide (keyOf tx tx.length ((laidTo tx tx.length i).getD j 0) < tx.drop i)) (laidTo tx tx.length i).length 0 (laidTo tx tx.length i).length (Nat.zero_le _)
          rw [hsp]
          unfold lspot
          rw [hll] at this ⊢
          exact this
        rw [← hsp] at D20
        clear D18 D19
        refine x_ifK ?_
        intro K9 k9
        ((with_reducible refine wpAny_isTrue_Compare1 ?_ ?hm); (case hm => with_unfolding_all rfl))
        refine wpAny_Call_Name_kw ?_
        refine nmG G (by assumption) g44 ?_
        refine c_fnk G F44.2 ?_
        ((with_reducible refine sp_cons ?_ ?he); (case he => exact rfl))
        ((with_reducible refine' nmQ ?D ?v ?_ ?o ?L); (case L => exact rfl); (case o => exact Eq.refl true); (case D => assumption); (case v => exact rfl))
        ((with_reducible refine sp_cons ?_ ?he); (case he => exact rfl))
        ((with_reducible refine' fn_Q ?G ?D g69 F69.2 ?_ ?hs ?he); (case hs => exact Eq.refl true); (case he => exact rfl); (case G => assumption); (case D => assumption))
        ((with_reducible refine sp_cons ?_ ?he); (case he => exact rfl))
        (with_reducible refine Subscript_ ?_)
        ((with_reducible refine' nmQ ?D ?v ?_ ?o ?L); (case L => exact rfl); (case o => exact Eq.refl true); (case D => assumption); (case v => exact rfl))
        refine wpAny_Slice ?_
        refine evalPart_some_step ?_
        ((with_reducible refine' nmQ ?D ?v ?_ ?o ?L); (case L => exact rfl); (case o => exact Eq.refl true); (case D => assumption); (case v => exact rfl))
        refine evalPart_none_step ?_
        refine evalPart_none_step ?_
        refine t_sn (by assumption) (by first | decide | assumption | exact a1 ‹_› | exact a2 ‹_› | exact a3 ‹_› (by decide) | exact dl ‹_› | exact ee ‹_› ‹_› | lia | omega) ?_
        intro s17 t17 D17
        (with_reducible refine sp_nil ?_)
        refine ⟨D17.ok, ?_⟩
        refine strx_spec G D17.ok (r.weak (by decide)) ?_
        intro s18 X18
        have D18 := D17.aft X18
        (with_reducible refine sp_nil ?_)
        (with_reducible refine kw_cons ?_)
        ((with_reducible refine' nmQ ?D ?v ?_ ?o ?L); (case L => exact rfl); (case o => exact Eq.refl true); (case D => assumption); (case v => exact rfl))
        (with_reducible refine kw_nil ?_)
        refine ⟨D18.ok, ?_⟩
        refine bisR_key (lo := 0) (hi := (laidTo tx tx.length i).length) (tx := tx) (sz := tx.length) G D18.ok (r.weak (by decide)) (bR2 (G.In D18.ok)) (lst_is (D18.at 3 rfl)) hus (by rw [laidTo_len]; first | lia | omega) (by first | decide | assumption | exact a1 ‹_› | exact a2 ‹_› | exact a3 ‹_› (by decide) | exact dl ‹_› | exact ee ‹_› ‹_› | lia | omega) D18.fact.2 (.inl ⟨rfl, rfl⟩) (Nat.le_refl _) ?_
        intro s19 u19 X19
        have D19 := D18.aft X19
        ((with_reducible refine' nmQ ?D ?v ?_ ?o ?L); (case L => exact rfl); (case o => exact Eq.refl true); (case D => assumption); (case v => exact rfl))
        refine o_ne ?_
        (with_reducible refine wpAny_truthy_bool ?_)
        have hrs := hok i hlt
        unfold rspot at hrs
        rw [hrs, ← hsp]
        refine k9 _ _ ?_
        refine ⟨fun h => ?_, fun _ => x_nil ?_⟩
        · simp at h
        obtain ⟨qs, hqs⟩ : ∃ qs, qs = ((laidTo tx tx.length i).take (sp + 1)).drop (sp - 1) := ⟨_, rfl⟩
        obtain ⟨qv, hqv⟩ : ∃ qv, qv = (us.take (sp + 1)).drop (sp - 1) := ⟨_, rfl⟩
        have hqn : Nats qv qs := by rw [hqs, hqv]; exact (hus.take _).drop _
        have hql : qs.length ≤ 100 := by rw [hqs, List.length_drop, List.length_take]; first | with_reducible exact s67 | lia | omega
        refine x_forW (fun I2 n2' s' => ∃ j o2 b1 t, n2' = qs.length - j ∧ j ≤ qs.length ∧ LI b1 j o2 ∧ b1 < I2 ∧ Act B s s.heap.objs.size (hvS tx tt f x y z i tv (nearMax tx i (qs.take j) rr) t sp t19) ((I2, o2) :: (b1, lst qv 0) :: (I, o') :: hvO x y z us vs ws n1 n2 n3) (KeyF f tx tx.length) s') ?_ ?_
        · intro K9 k9
          (with_reducible refine Subscript_ ?_)
          ((with_reducible refine' nmQ ?D ?v ?_ ?o ?L); (case L => exact rfl); (case o => exact Eq.refl true); (case D => assumption); (case v => exact rfl))
          refine wpAny_Slice ?_
          refine evalPart_some_step ?_
          (((with_reducible refine' fn_B boot_max ?G ?D b_max ?_ ?hs ?hc); (case hc => exact .inl ⟨_, rfl⟩)); (case hs => (repeat' apply And.intro) <;> exact rfl); (case G => assumption); (case D => assumption))
          ((with_reducible refine sp_cons ?_ ?he); (case he => exact rfl))
          (with_reducible refine wpAny_BinOp ?_)
          ((with_reducible refine' nmQ ?D ?v ?_ ?o ?L); (case L => exact rfl); (case o => exact Eq.refl true); (case D => assumption); (case v => exact rfl))
          ((with_reducible refine' e_int ?D ?_); (case D => assumption); intro _ _ _)
          refine o_sub (by assumption) ?_
          intro s21 t21 D21
          ((with_reducible refine sp_cons ?_ ?he); (case he => exact rfl))
          ((with_reducible refine' e_int ?D ?_); (case D => assumption); intro _ _ _)
          (with_reducible refine sp_nil ?_)
          refine c_max (by assumption) r.hh ?_
          intro s22 t22 D22
          rw [show max ((sp : Int) - 1) 0 = ((sp - 1 : Nat) : Int) by first | with_reducible exact s65 | lia | omega]
          refine evalPart_some_step ?_
          (with_reducible refine wpAny_BinOp ?_)
          ((with_reducible refine' nmQ ?D ?v ?_ ?o ?L); (case L => exact rfl); (case o => exact Eq.refl true); (case D => assumption); (case v => exact rfl))
          ((with_reducible refine' e_int ?D ?_); (case D => assumption); intro _ _ _)
          refine o_addK (k := ((sp + 1 : Nat) : Int)) (by first | rfl | lia | omega) (by assumption) ?_
          intro s23 t23 D23
          refine evalPart_none_step ?_
          refine l_slice (ys := qv) (by assumption) (lst_is (Act.at (by assumption) 3 rfl)) (by rw [hus.len]; first | lia | omega) (.int _ _) (.int _ _) .none (by simp) (by rw [hqv]; exact pick_run _ _ _) ?_
          intro b1 s24 D24
          refine i_list D24 (lst_is (D24.at 0 rfl)) ?_
          intro I2 o2 s25 ho2 hlt2 D25
          exact k9 _ _ ⟨I2, _, rfl, 0, o2, b1, tr, rfl, Nat.zero_le _, ho2, hlt2, D25⟩
        · rintro I2 n2' s21 ⟨j, o2, b1, t, rfl, hj, ho2, hbI, D21⟩
          intro W3 z3 r3
          have W := It.list (w := w) (I := I2) (a := b1) r.hh (Nat.ne_of_lt hbI) qv
          by_cases hjl : j < qs.length
          · refine W.step D21 0 rfl ho2 (lst_is (D21.at 1 rfl)) (by rw [hqn.len]; exact hjl) ?_
            intro v s22 o2' hv ho2' D22
            obtain ⟨tq, hvq⟩ := hqn.get (getD_some hjl)
            rw [hv] at hvq; cases hvq
            obtain ⟨q, hq0⟩ : ∃ q, q = qs.getD j 0 := ⟨_, rfl⟩
            have hqlt : q < i := by
              rw [hq0]
              refine laidTo_lt tx tx.length i _ ?_
              have := List.mem_of_getElem? (getD_some hjl)
              rw [hqs] at this ⊢
              exact List.mem_of_mem_take (List.mem_of_mem_drop this)
            rw [← hq0]
            ((with_reducible refine' stL ?D ?_ ?hk ?hx ?hL); (case hL => exact rfl); (case D => assumption); (case hx => exact rfl); (case hk => exact rfl); intro _ _)
            refine x_assignK ?_
            intro K9 k9
            ((with_reducible refine' e_int ?D ?_); (case D => assumption); intro _ _ _)
            refine k9 _ _ ?_
            ((with_reducible refine' stL ?D ?_ ?hk ?hx ?hL); (case hL => exact rfl); (case D => assumption); (case hx => exact rfl); (case hk => exact rfl); intro _ _)
            refine x_whileW (fun m s' => ∃ zz tz, zz + m = tx.length ∧ comW tx q i m zz = comW tx q i tx.length 0 ∧ Act B s s.heap.objs.size (hvN tx tt f x y z i tv (nearMax tx i (qs.take j) rr) t sp t19 q tq zz tz) ((I2, o2') :: (b1, lst qv 0) :: (I, o') :: hvO x y z us vs ws n1 n2 n3) (KeyF f tx tx.length) s') ?_ tx.length ⟨0, _, by first | exact Nat.add_comm .. | lia | omega, rfl, by assumption⟩
            rintro m s23 ⟨zz, tz, hzm, hcom, D23⟩
            intro W4 z4 r4 K8 k8
            refine wpAny_mono (Q := fun b s₁ => b = decide (i + zz < tx.length ∧ tx.getD (q + zz) 0 = tx.getD (i + zz) 0) ∧ Act B s s.heap.objs.size (hvN tx tt f x y z i tv (nearMax tx i (qs.take j) rr) t sp t19 q tq zz tz) ((I2, o2') :: (b1, lst qv 0) :: (I, o') :: hvO x y z us vs ws n1 n2 n3) (KeyF f tx tx.length) s₁) ?_ (fun b s₁ hbD => ?_) fun _ _ x => x
            · refine wpAny_isTrue_BoolOp ?_
              refine wpAny_allTrue_And_cons ?_
              ((with_reducible refine wpAny_isTrue_Compare1 ?_ ?hm); (case hm => with_unfolding_all rfl))
              (with_reducible refine wpAny_BinOp ?_)
              ((with_reducible refine' nmQ ?D ?v ?_ ?o ?L); (case L => exact rfl); (case o => exact Eq.refl true); (case D => assumption); (case v => exact rfl))
              ((with_reducible refine' nmQ ?D ?v ?_ ?o ?L); (case L => exact rfl); (case o => exact Eq.refl true); (case D => assumption); (case v => exact rfl))
              refine o_addK (k := ((i + zz : Nat) : Int)) (by first | rfl | lia | omega) (by assumption) ?_
              intro s24 t24 D24
              (((with_reducible refine' fn_B boot_len' ?G ?D b_len ?_ ?hs ?hc); (case hc => exact .inl ⟨_, rfl⟩)); (case hs => (repeat' apply And.intro) <;> exact rfl); (case G => assumption); (case D => assumption))
              ((with_reducible refine sp_cons ?_ ?he); (case he => exact rfl))
              ((with_reducible refine' nmQ ?D ?v ?_ ?o ?L); (case L => exact rfl); (case o => exact Eq.refl true); (case D => assumption); (case v => exact rfl))
              (with_reducible refine sp_nil ?_)
              refine t_len (by assumption) (by first | decide | assumption | exact a1 ‹_› | exact a2 ‹_› | exact a3 ‹_› (by decide) | exact dl ‹_› | exact ee ‹_› ‹_› | lia | omega) ?_
              intro s25 t25 D25
              (with_reducible refine o_lt ?_)
              (with_reducible refine wpAny_truthy_bool ?_)
              by_cases hc1 : i + zz < tx.length
              · rw [if_pos (decide_eq_true (by first | with_reducible exact s20 ‹_› | lia | omega))]
                refine wpAny_allTrue_And_cons ?_
                ((with_reducible refine wpAny_isTrue_Compare1 ?_ ?hm); (case hm => with_unfolding_all rfl))
                (with_reducible refine Subscript_ ?_)
                ((with_reducible refine' nmQ ?D ?v ?_ ?o ?L); (case L => exact rfl); (case o => exact Eq.refl true); (case D => assumption); (case v => exact rfl))
                (with_reducible refine wpAny_BinOp ?_)
                ((with_reducible refine' nmQ ?D ?v ?_ ?o ?L); (case L => exact rfl); (case o => exact Eq.refl true); (case D => assumption); (case v => exact rfl))
                ((with_reducible refine' nmQ ?D ?v ?_ ?o ?L); (case L => exact rfl); (case o => exact Eq.refl true); (case D => assumption); (case v => exact rfl))
                refine o_addK (k := ((q + zz : Nat) : Int)) (by first | rfl | lia | omega) (by assumption) ?_
                intro s26 t26 D26
                refine t_item (by assumption) (getD_some (l := tx) (i := q + zz) (by first | with_reducible exact t61 ‹_› ‹_› | lia | omega)) (by first | decide | assumption | exact a1 ‹_› | exact a2 ‹_› | exact a3 ‹_› (by decide) | exact dl ‹_› | exact ee ‹_› ‹_› | lia | omega) ?_
                intro s27 t27 D27
                (with_reducible refine Subscript_ ?_)
                ((with_reducible refine' nmQ ?D ?v ?_ ?o ?L); (case L => exact rfl); (case o => exact Eq.refl true); (case D => assumption); (case v => exact rfl))
                (with_reducible refine wpAny_BinOp ?_)
                ((with_reducible refine' nmQ ?D ?v ?_ ?o ?L); (case L => exact rfl); (case o => exact Eq.refl true); (case D => assumption); (case v => exact rfl))
                ((with_reducible refine' nmQ ?D ?v ?_ ?o ?L); (case L => exact rfl); (case o => exact Eq.refl true); (case D => assumption); (case v => exact rfl))
                refine o_addK (k := ((i + zz : Nat) : Int)) (by first | rfl | lia | omega) (by assumption) ?_
                intro s28 t28 D28
                refine t_item (by assumption) (getD_some (l := tx) (i := i + zz) hc1) (by first | decide | assumption | exact a1 ‹_› | exact a2 ‹_› | exact a3 ‹_› (by decide) | exact dl ‹_› | exact ee ‹_› ‹_› | lia | omega) ?_
                intro s29 t29 D29
                refine t_eq ?_
                (with_reducible refine wpAny_truthy_bool ?_)
                by_cases hc2 : tx.getD (q + zz) 0 = tx.getD (i + zz) 0
                · rw [if_pos (by rw [hc2]; exact beq_self_eq_true _)]
                  exact wpAny_allTrue_And_nil ⟨(decide_eq_true ⟨hc1, hc2⟩).symm, D29⟩
                · rw [if_neg (by simpa using hc2)]
                  exact ⟨(decide_eq_false fun h => hc2 h.2).symm, D29⟩
              · rw [if_neg (by rw [decide_eq_false (by first | decide | assumption | exact a1 ‹_› | exact a2 ‹_› | exact a3 ‹_› (by decide) | exact dl ‹_› | exact ee ‹_› ‹_› | lia | omega)]; exact Bool.false_ne_true)]
                exact ⟨(decide_eq_false fun h => hc1 h.1).symm, D25⟩
            · obtain ⟨hb, D24⟩ := hbD
              refine k8 _ _ ?_
              refine ⟨fun h => ?_, fun h => ?_⟩
              · rw [h] at hb
                have hc := of_decide_eq_true hb.symm
                obtain ⟨m, rfl⟩ : ∃ m', m = m' + 1 := ⟨m - 1, by first | with_reducible exact t39 ‹_› ‹_› | lia | omega⟩
                refine x_aug ?_
                refine ldL D24 rfl ?_ rfl rfl
                ((with_reducible refine' e_int ?D ?_); (case D => assumption); intro _ _ _)
                refine o_iaddK (k := ((zz + 1 : Nat) : Int)) (by first | rfl | lia | omega) (by assumption) ?_
                intro s25 t25 D25
                ((with_reducible refine' stL ?D ?_ ?hk ?hx ?hL); (case hL => exact rfl); (case D => assumption); (case hx => exact rfl); (case hk => exact rfl); intro _ _)
                refine x_nil ?_
                refine z4 _ ?_
                refine ⟨m, by first | decide | assumption | exact a1 ‹_› | exact a2 ‹_› | exact a3 ‹_› (by decide) | exact dl ‹_› | exact ee ‹_› ‹_› | lia | omega, zz + 1, t25, by first | decide | assumption | exact a1 ‹_› | exact a2 ‹_› | exact a3 ‹_› (by decide) | exact dl ‹_› | exact ee ‹_› ‹_› | lia | omega, ?_, by assumption⟩
                rw [← hcom]
                conv => rhs; rewrite [comW]
                rw [if_pos hc]
              · rw [h] at hb
                have hc := of_decide_eq_false hb.symm
                have hzz : zz = comW tx q i tx.length 0 := by
                  rw [← hcom]
                  cases m with
                  | zero => rfl
                  | succ m => rewrite [comW]; rw [if_neg hc]
                refine x_assignK ?_
                intro K9 k9
                (((with_reducible refine' fn_B boot_max ?G ?D b_max ?_ ?hs ?hc); (case hc => exact .inl ⟨_, rfl⟩)); (case hs => (repeat' apply And.intro) <;> exact rfl); (case G => assumption); (case D => assumption))
                ((with_reducible refine sp_cons ?_ ?he); (case he => exact rfl))
                ((with_reducible refine' nmQ ?D ?v ?_ ?o ?L); (case L => exact rfl); (case o => exact Eq.refl true); (case D => assumption); (case v => exact rfl))
                ((with_reducible refine sp_cons ?_ ?he); (case he => exact rfl))
                ((with_reducible refine' nmQ ?D ?v ?_ ?o ?L); (case L => exact rfl); (case o => exact Eq.refl true); (case D => assumption); (case v => exact rfl))
                (with_reducible refine sp_nil ?_)
                refine c_max (by assumption) r.hh ?_
                intro s25 t25 D25
                have hmx : max ((nearMax tx i (qs.take j) rr : Nat) : Int) ((zz : Nat) : Int) = ((nearMax tx i (qs.take (j + 1)) rr : Nat) : Int) := by
                  have e : nearMax tx i (qs.take (j + 1)) rr = max (nearMax tx i (qs.take j) rr) zz := by
                    unfold nearMax
                    rw [List.take_add_one, getD_some hjl, List.foldl_append, ← hq0, hzz]
                    rfl
                  rw [e]; first | with_reducible exact s66 | lia | omega
                rw [hmx]
                refine k9 _ _ ?_
                ((with_reducible refine' stL ?D ?_ ?hk ?hx ?hL); (case hL => exact rfl); (case D => assumption); (case hx => exact rfl); (case hk => exact rfl); intro _ _)
                refine x_nil ?_
                refine z3 _ ?_
                refine ⟨qs.length - (j + 1), by first | decide | assumption | exact a1 ‹_› | exact a2 ‹_› | exact a3 ‹_› (by decide) | exact dl ‹_› | exact ee ‹_› ‹_› | lia | omega, j + 1, o2', b1, t25, rfl, hjl, ho2', hbI, Act.pre (r := [(Str.ofString "near", .int (q : Int) tq), (Str.ofString "size", .int (zz : Nat) tz)]) (by assumption)⟩
          · have hjq : j = qs.length := by first | decide | assumption | exact a1 ‹_› | exact a2 ‹_› | exact a3 ‹_› (by decide) | exact dl ‹_› | exact ee ‹_› ‹_› | lia | omega
            subst hjq
            refine W.end (o := o2) D21 0 rfl (by rw [hqn.len]; exact ho2) (lst_is (D21.at 1 rfl)) ?_
            intro s22 D22
            rw [List.take_length] at D22
            refine x_exprK ?_
            intro K9 k9
            refine MethodCall_ ?_
            ((with_reducible refine' nmQ ?D ?v ?_ ?o ?L); (case L => exact rfl); (case o => exact Eq.refl true); (case D => assumption); (case v => exact rfl))
            refine m_list (D22.at 2 rfl) PySem.F.slot_list_append PySem.F.type_list_append ?_
            refine callWith_method1 ?_
            ((with_reducible refine sp_cons ?_ ?he); (case he => exact rfl))
            ((with_reducible refine' nmQ ?D ?v ?_ ?o ?L); (case L => exact rfl); (case o => exact Eq.refl true); (case D => assumption); (case v => exact rfl))
            (with_reducible refine sp_nil ?_)
            refine a_append (by assumption) 2 rfl (by rw [hws.len, reachTo_len]; first | lia | omega) ?_
            intro s23 m23 D23
            refine k9 _ _ ?_
            refine ⟨fun a q => (by cases q), ?_⟩
            refine x_ifK ?_
            intro K9 k9
            ((with_reducible refine wpAny_isTrue_Compare1 ?_ ?hm); (case hm => with_unfolding_all rfl))
            refine wpAny_Call_Name_kw ?_
            refine nmG G (by assumption) g53 ?_
            refine c_fnk G F53.2 ?_
            ((with_reducible refine sp_cons ?_ ?he); (case he => exact rfl))
            ((with_reducible refine' nmQ ?D ?v ?_ ?o ?L); (case L => exact rfl); (case o => exact Eq.refl true); (case D => assumption); (case v => exact rfl))
            ((with_reducible refine sp_cons ?_ ?he); (case he => exact rfl))
            ((with_reducible refine' nmQ ?D ?v ?_ ?o ?L); (case L => exact rfl); (case o => exact Eq.refl true); (case D => assumption); (case v => exact rfl))
            (with_reducible refine sp_nil ?_)
            (with_reducible refine kw_cons ?_)
            ((with_reducible refine' nmQ ?D ?v ?_ ?o ?L); (case L => exact rfl); (case o => exact Eq.refl true); (case D => assumption); (case v => exact rfl))
            (with_reducible refine kw_nil ?_)
            refine ⟨D23.ok, ?_⟩
            refine insort_spec G D23.ok (r.weak (by decide)) (D23.at 4 rfl) hus (by first | decide | assumption | exact a1 ‹_› | exact a2 ‹_› | exact a3 ‹_› (by decide) | exact dl ‹_› | exact ee ‹_› ‹_› | lia | omega) (by first | decide | assumption | exact a1 ‹_› | exact a2 ‹_› | exact a3 ‹_› (by decide) | exact dl ‹_› | exact ee ‹_› ‹_› | lia | omega) D23.fact.2 ?_
            intro s24 m24 like24 tab24 kp24 e24
            have D24 := D23.inserted 4 rfl like24 tab24 kp24 e24
            (with_reducible refine e_none ?_)
            refine isNot_none ?_
            (with_reducible refine wpAny_truthy_bool ?_)
            refine k9 _ _ ?_
            refine ⟨fun h => (by cases h), fun _ => x_nil ?_⟩
            refine x_exprK ?_
            intro K9 k9
            refine wpAny_Call_Name_kw ?_
            refine nmG G (by assumption) g53 ?_
            refine c_fnk G F53.2 ?_
            ((with_reducible refine sp_cons ?_ ?he); (case he => exact rfl))
            ((with_reducible refine' nmQ ?D ?v ?_ ?o ?L); (case L => exact rfl); (case o => exact Eq.refl true); (case D => assumption); (case v => exact rfl))
            ((with_reducible refine sp_cons ?_ ?he); (case he => exact rfl))
            ((with_reducible refine' nmQ ?D ?v ?_ ?o ?L); (case L => exact rfl); (case o => exact Eq.refl true); (case D => assumption); (case v => exact rfl))
            (with_reducible refine sp_nil ?_)
            (with_reducible refine kw_cons ?_)
            ((with_reducible refine' fn_Q ?G ?D g107 F107.2 ?_ ?hs ?he); (case hs => exact Eq.refl true); (case he => exact rfl); (case G => assumption); (case D => assumption))
            ((with_reducible refine sp_cons ?_ ?he); (case he => exact rfl))
            ((with_reducible refine' nmQ ?D ?v ?_ ?o ?L); (case L => exact rfl); (case o => exact Eq.refl true); (case D => assumption); (case v => exact rfl))
            ((with_reducible refine sp_cons ?_ ?he); (case he => exact rfl))
            ((with_reducible refine' e_int ?D ?_); (case D => assumption); intro _ _ _)
            (with_reducible refine sp_nil ?_)
            refine ⟨Act.ok (by assumption), ?_⟩
            refine front_spec (tx := tx) (sz := 1) G (Act.ok (by assumption)) (r.weak (by decide)) ?_
            intro s25 f1 X25 hf1 hk25
            have D25 := Act.aft (by assumption) X25
            (with_reducible refine kw_nil ?_)
            refine ⟨D25.ok, ?_⟩
            refine insort_spec G D25.ok (r.weak (by decide)) (D25.at 3 rfl) hvs (by rw [laidTo_len]; first | lia | omega) (by first | decide | assumption | exact a1 ‹_› | exact a2 ‹_› | exact a3 ‹_› (by decide) | exact dl ‹_› | exact ee ‹_› ‹_› | lia | omega) hk25 ?_
            intro s26 m26 like26 tab26 kp26 e26
            have D26 := D25.inserted 3 rfl like26 tab26 kp26 e26
            refine k9 _ _ ?_
            refine ⟨fun a q => (by cases q), x_nil ?_⟩
            refine z1 _ ?_
            refine ⟨tx.length - (i + 1), by first | decide | assumption | exact a1 ‹_› | exact a2 ‹_› | exact a3 ‹_› (by decide) | exact dl ‹_› | exact ee ‹_› ‹_› | lia | omega, i + 1, o', _, _, _, _, _, _, rfl, hlt, ho', ?_, ?_, ?_, Act.pre (r := [(Str.ofString "at", .int (i : Int) tv), (Str.ofString "reach", .int (nearMax tx i qs rr : Nat) t), (Str.ofString "spot", .int (sp : Nat) t19)]) (D26.erase 0)⟩
            · exact (hus.take _).app ((Nats.one i _).app (hus.drop _))
            · exact (hvs.take _).app ((Nats.one i _).app (hvs.drop _))
            · refine hws.app ?_
              rw [hqs, hsp, hrr]
              exact Nats.one _ _
    · have hie : i = tx.length := by first | decide | assumption | exact a1 ‹_› | exact a2 ‹_› | exact a3 ‹_› (by decide) | exact dl ‹_› | exact ee ‹_› ‹_› | lia | omega
      subst hie
      refine (It.range r.hh 0 1 tx.length).end D8 0 rfl ho trivial ?_
      intro s9 D9
      refine x_ret ?_
      refine Tuple_ ?_
      ((with_reducible refine sp_cons ?_ ?he); (case he => exact rfl))
      ((with_reducible refine' nmQ ?D ?v ?_ ?o ?L); (case L => exact rfl); (case o => exact Eq.refl true); (case D => assumption); (case v => exact rfl))
      ((with_reducible refine sp_cons ?_ ?he); (case he => exact rfl))
      ((with_reducible refine' nmQ ?D ?v ?_ ?o ?L); (case L => exact rfl); (case o => exact Eq.refl true); (case D => assumption); (case v => exact rfl))
      ((with_reducible refine sp_cons ?_ ?he); (case he => exact rfl))
      ((with_reducible refine' nmQ ?D ?v ?_ ?o ?L); (case L => exact rfl); (case o => exact Eq.refl true); (case D => assumption); (case v => exact rfl))
      (with_reducible refine sp_nil ?_)
      refine n_tup (by assumption) (by simp) ?_
      intro tp s10 D10
      exact k s10 tp x y z us vs ws n1 n2 n3 D10.got hus hvs hws
end
noncomputable def TI (a : Addr) (i : Nat) (o : Obj) : Prop := o.cls = .type "tuple_iterator" ∧ o.data = .fields #[.ref a, .int (i : Int) 0]
section
variable {w : World} {B : Heap} {A : Around} {s₀ s : Shared} {L I a : Addr} {l : List (Str × Value)} {N : List (Addr × Obj)} {P : Heap → Prop}
theorem It.tuple (hh : A.handled = none) (hne : a ≠ I) (xs : List Value) : It w A I xs.length (fun i v => xs[i]? = some v) (TI a) (fun h => h.IsTuple a xs.toArray) where
  soft := fun i o ho => hard_int ho.2 rfl
  next := fun i s Q o hi hb ho hob h => by
    refine wpAny_pyNext_tuple_item (i := i) ⟨o, ho, hob.1, hob.2⟩ hb (x := xs[i]) (by simp [hi]) fun h' hit' hs' => ?_
    obtain ⟨o', e, c, d⟩ := hit'
    exact h _ h' s.toks o' (by simp [hi]) e ⟨c, d⟩ fun b ob hne e => (hs'.2 b hne).trans e
  done := fun s Q o hb ho hob h => wpAny_pyNext_tuple_end (i := xs.length) hh ⟨o, ho, hob.1, hob.2⟩ hb (by simp) fun h' he => h h' he
  self := fun i s Q o ho hob h => wpAny_pyIter_tupleiter (i := i) ⟨o, ho, hob.1, hob.2⟩ h
theorem i_tup {xs : List Value} {n : Nat} {Q : Value → Shared → Prop} (D : Act B s₀ L l N P s) (ha : s.heap.get? a = some (tup xs n))
    (h : ∀ I o s', TI a 0 o → a < I → Act B s₀ L l ((I, o) :: N) P s' → Q (.ref I) s') : wpAny (model PR w) A (pyIter (.ref a)) Q no s :=
  wpAny_pyIter_tuple ⟨_, ha, rfl, n, rfl⟩ (h _ _ _ ⟨rfl, rfl⟩ (Heap.lt_size ha) (D.push _ rfl))
end
noncomputable def lowC (tx laid : List Nat) (pc : List Nat) (sz : Nat) : Nat := bis (fun i => decide (keyOf tx sz (laid.getD i 0) < pc)) laid.length 0 laid.length
noncomputable def highC (tx laid : List Nat) (pc : List Nat) (sz : Nat) : Nat := bis (fun i => !decide (pc < keyOf tx sz (laid.getD i 0))) laid.length 0 laid.length
noncomputable def placesC (tx : List Nat) (pc : List Nat) (sz : Nat) : Nat → List Nat
  | 0 => []
  | i + 1 => if (tx.take (i + sz)).drop i = pc then placesC tx pc sz i ++ [i] else placesC tx pc sz i
noncomputable def sLeft (ps : List Nat) (x : Nat) : Nat := bis (fun i => decide (ps.getD i 0 < x)) ps.length 0 ps.length
noncomputable def sRight (ps : List Nat) (x : Nat) : Nat := bis (fun i => !decide (x < ps.getD i 0)) ps.length 0 ps.length
noncomputable def pieceAt (tx rs : List Nat) (p : Nat) : List Nat := (tx.take (p + rs.getD p 0)).drop p
noncomputable def symAt (tx rs : List Nat) (p : Nat) : Nat :=
  if pieceAt tx rs p = List.replicate (rs.getD p 0) (tx.getD p 0) then tx.getD p 0
  else 256 + (placesC tx (pieceAt tx rs p) (rs.getD p 0) tx.length).getD (sLeft (placesC tx (pieceAt tx rs p) (rs.getD p 0) tx.length) p - 1) 0
noncomputable def codeW (tx rs : List Nat) : Nat → Nat → List Nat → List Nat → List Nat × List Nat
  | 0, _, ss, zs => (ss, zs)
  | f + 1, p, ss, zs => if p < tx.length then codeW tx rs f (p + rs.getD p 0) (ss ++ [symAt tx rs p]) (zs ++ [rs.getD p 0]) else (ss, zs)
structure CodeOk (tx laid rs : List Nat) (p : Nat) : Prop where
  lh : lowC tx laid (pieceAt tx rs p) (rs.getD p 0) ≤ highC tx laid (pieceAt tx rs p) (rs.getD p 0)
  hn : highC tx laid (pieceAt tx rs p) (rs.getD p 0) ≤ laid.length
  e1 : bis (fun i => decide (keyOf tx (rs.getD p 0) (laid.getD i 0) < [])) (highC tx laid (pieceAt tx rs p) (rs.getD p 0)) (lowC tx laid (pieceAt tx rs p) (rs.getD p 0)) (highC tx laid (pieceAt tx rs p) (rs.getD p 0)) = lowC tx laid (pieceAt tx rs p) (rs.getD p 0)
  e2 : bis (fun i => !decide ([] < keyOf tx (rs.getD p 0) (laid.getD i 0))) (highC tx laid (pieceAt tx rs p) (rs.getD p 0)) (lowC tx laid (pieceAt tx rs p) (rs.getD p 0)) (highC tx laid (pieceAt tx rs p) (rs.getD p 0)) = lowC tx laid (pieceAt tx rs p) (rs.getD p 0)
  e3 : bis (fun i => decide (keyOf tx (rs.getD p 0) (laid.getD i 0) < [256])) (highC tx laid (pieceAt tx rs p) (rs.getD p 0)) (lowC tx laid (pieceAt tx rs p) (rs.getD p 0)) (highC tx laid (pieceAt tx rs p) (rs.getD p 0)) = highC tx laid (pieceAt tx rs p) (rs.getD p 0)
  e4 : bis (fun i => !decide ([256] < keyOf tx (rs.getD p 0) (laid.getD i 0))) (highC tx laid (pieceAt tx rs p) (rs.getD p 0)) (lowC tx laid (pieceAt tx rs p) (rs.getD p 0)) (highC tx laid (pieceAt tx rs p) (rs.getD p 0)) = highC tx laid (pieceAt tx rs p) (rs.getD p 0)
  srt : ∀ qs : List Nat, qs.Perm ((laid.take (highC tx laid (pieceAt tx rs p) (rs.getD p 0))).drop (lowC tx laid (pieceAt tx rs p) (rs.getD p 0))) → qs.Pairwise (· ≤ ·) → qs = placesC tx (pieceAt tx rs p) (rs.getD p 0) tx.length
  s1 : 1 ≤ sLeft (placesC tx (pieceAt tx rs p) (rs.getD p 0) tx.length) p
  s2 : sRight (placesC tx (pieceAt tx rs p) (rs.getD p 0) tx.length) p = sLeft (placesC tx (pieceAt tx rs p) (rs.getD p 0) tx.length) p + 1
  s3 : sLeft (placesC tx (pieceAt tx rs p) (rs.getD p 0) tx.length) p < (placesC tx (pieceAt tx rs p) (rs.getD p 0) tx.length).length
theorem placesC_len (tx : List Nat) (pc : List Nat) (sz : Nat) : ∀ i, (placesC tx pc sz i).length ≤ i
  | 0 => Nat.le_refl _
  | i + 1 => by
    have := placesC_len tx pc sz i
    rewrite [placesC]
    split
    · rw [List.length_append]; simp; first | assumption | lia | omega
    · first | with_reducible exact Nat.le_succ_of_le ‹_› | lia | omega
/- halving, order -/
theorem bis_spec (p : Nat → Bool) (k : Nat) : ∀ f lo hi, lo ≤ k → k ≤ hi → hi - lo ≤ f → (∀ i, lo ≤ i → i < k → p i = true) → (∀ i, k ≤ i → i < hi → p i = false) → bis p f lo hi = k
  | 0, lo, hi, h1, h2, h3, _, _ => by rewrite [bis]; first | with_reducible exact t53 ‹_› ‹_› ‹_› | lia | omega
  | f + 1, lo, hi, h1, h2, h3, h4, h5 => by
    rewrite [bis]
    split
    · rename_i hlt
      have m1 : lo ≤ (lo + hi) / 2 := by first | decide | assumption | exact a1 ‹_› | exact a2 ‹_› | exact a3 ‹_› (by decide) | exact dl ‹_› | exact ee ‹_› ‹_› | lia | omega
      have m2 : (lo + hi) / 2 < hi := by first | with_reducible exact half_lt ‹_› | lia | omega
      generalize (lo + hi) / 2 = m at m1 m2
      by_cases hm : m < k
      · rw [if_pos (h4 _ m1 hm)]
        exact bis_spec p k f _ _ hm h2 (by first | with_reducible exact s31 ‹_› ‹_› | lia | omega) (fun i hi1 hi2 => h4 i (by first | decide | assumption | exact a1 ‹_› | exact a2 ‹_› | exact a3 ‹_› (by decide) | exact dl ‹_› | exact ee ‹_› ‹_› | lia | omega) hi2) h5
      · rw [h5 _ (Nat.le_of_not_lt hm) m2, if_neg Bool.false_ne_true]
        exact bis_spec p k f _ _ h1 (Nat.le_of_not_lt hm) (by first | with_reducible exact s32 ‹_› ‹_› | lia | omega) h4 (fun i a b => h5 i a (by first | with_reducible exact Nat.lt_trans ‹_› ‹_› | lia | omega))
    · first | lia | omega
theorem bis_all (p : Nat → Bool) (k n : Nat) (h1 : k ≤ n) (h2 : ∀ i, i < k → p i = true) (h3 : ∀ i, k ≤ i → i < n → p i = false) : bis p n 0 n = k :=
  bis_spec p k n 0 n (Nat.zero_le _) h1 (Nat.le_refl _) (fun i _ h => h2 i h) h3
theorem bis_no (p : Nat → Bool) {lo hi : Nat} (hle : lo ≤ hi) (h : ∀ i, lo ≤ i → i < hi → p i = false) : bis p hi lo hi = lo :=
  bis_spec p lo hi lo hi (Nat.le_refl _) hle (Nat.sub_le ..) (fun i a b => absurd b (Nat.not_lt.mpr a)) h
theorem bis_yes (p : Nat → Bool) {lo hi : Nat} (hle : lo ≤ hi) (h : ∀ i, lo ≤ i → i < hi → p i = true) : bis p hi lo hi = hi :=
  bis_spec p hi hi lo hi hle (Nat.le_refl _) (Nat.sub_le ..) h fun i a b => absurd b (Nat.not_lt.mpr a)
theorem cut_at (p : Nat → Bool) : ∀ ps : List Nat, ps.Pairwise (fun a b => p b = true → p a = true) → ∃ k, k ≤ ps.length ∧ (∀ i, i < k → p (ps.getD i 0) = true) ∧ (∀ i, k ≤ i → i < ps.length → p (ps.getD i 0) = false)
  | [], _ => ⟨0, Nat.le_refl _, fun i h => by first | decide | assumption | exact a1 ‹_› | exact a2 ‹_› | exact a3 ‹_› (by decide) | exact dl ‹_› | exact ee ‹_› ‹_› | lia | omega, fun i _ h => by simp at h⟩
  | a :: r, h => by
    obtain ⟨ha, hr⟩ := List.pairwise_cons.mp h
    obtain ⟨k, h1, h2, h3⟩ := cut_at p r hr
    by_cases hp : p a = true
    · refine ⟨k + 1, by simp; first | assumption | lia | omega, fun i hi => ?_, fun i hi hl => ?_⟩
      · cases i with
        | zero => exact hp
        | succ i => exact h2 i (by first | exact Nat.le_of_lt_succ ‹_› | lia | omega)
      · cases i with
        | zero => omega
        | succ i => exact h3 i (by first | exact Nat.le_of_lt_succ ‹_› | lia | omega) (by simp at hl; first | assumption | lia | omega)
    · refine ⟨0, Nat.zero_le _, fun i hi => by first | decide | assumption | exact a1 ‹_› | exact a2 ‹_› | exact a3 ‹_› (by decide) | exact dl ‹_› | exact ee ‹_› ‹_› | lia | omega, fun i _ hl => ?_⟩
      cases i with
      | zero => exact Bool.eq_false_iff.mpr hp
      | succ i =>
        have hl' : i < r.length := by simp at hl; first | assumption | lia | omega
        refine Bool.eq_false_iff.mpr fun hq => hp (ha (r.getD i 0) ?_ hq)
        rw [List.getD_eq_getElem?_getD, List.getElem?_eq_getElem hl']; exact List.getElem_mem _
theorem mem_getD {l : List Nat} {x : Nat} (h : x ∈ l) : ∃ i, i < l.length ∧ l.getD i 0 = x := by
  obtain ⟨i, hi, e⟩ := List.mem_iff_getElem.mp h
  exact ⟨i, hi, by rw [List.getD_eq_getElem?_getD, List.getElem?_eq_getElem hi]; exact e⟩
theorem getD_mem {l : List Nat} {i : Nat} (h : i < l.length) : l.getD i 0 ∈ l := by
  rw [List.getD_eq_getElem?_getD, List.getElem?_eq_getElem h]; exact List.getElem_mem _
theorem pw_getD {R : Nat → Nat → Prop} {l : List Nat} (h : l.Pairwise R) {i j : Nat} (hij : i < j) (hj : j < l.length) : R (l.getD i 0) (l.getD j 0) := by
  have := List.pairwise_iff_getElem.mp h i j (by first | with_reducible exact Nat.lt_trans ‹_› ‹_› | lia | omega) hj hij
  rw [List.getD_eq_getElem?_getD, List.getElem?_eq_getElem (by first | with_reducible exact Nat.lt_trans ‹_› ‹_› | lia | omega), List.getD_eq_getElem?_getD, List.getElem?_eq_getElem hj]
  exact this
theorem mem_run {l : List Nat} {lo hi x : Nat} : x ∈ (l.take hi).drop lo ↔ ∃ i, lo ≤ i ∧ i < hi ∧ i < l.length ∧ l.getD i 0 = x := by
  constructor
  · intro h
    obtain ⟨i, hi', e⟩ := List.mem_iff_getElem?.mp h |>.imp fun i e => (⟨(List.getElem?_eq_some_iff.mp e).1, e⟩ : _ ∧ _)
    rw [List.getElem?_drop, List.getElem?_take] at e
    split at e
    · have hlt := (List.getElem?_eq_some_iff.mp e).1
      exact ⟨lo + i, by first | with_reducible exact Nat.le_add_right .. | lia | omega, by first | decide | assumption | exact a1 ‹_› | exact a2 ‹_› | exact a3 ‹_› (by decide) | exact dl ‹_› | exact ee ‹_› ‹_› | lia | omega, hlt, by rw [List.getD_eq_getElem?_getD, e]; rfl⟩
    · cases e
  · rintro ⟨i, h1, h2, h3, rfl⟩
    refine List.mem_iff_getElem?.mpr ⟨i - lo, ?_⟩
    rw [List.getElem?_drop, List.getElem?_take, if_pos (by first | with_reducible exact s53 ‹_› ‹_› | lia | omega), show lo + (i - lo) = i by first | with_reducible exact Nat.add_sub_cancel' ‹_› | lia | omega]
    exact getD_some h3
theorem eq_of_mem {α : Type} {R : α → α → Prop} (asym : ∀ a b, R a b → ¬ R b a) : ∀ {l m : List α}, l.Pairwise R → m.Pairwise R → (∀ x, x ∈ l ↔ x ∈ m) → l = m
  | [], [], _, _, _ => rfl
  | [], b :: m, _, _, h => absurd ((h b).mpr (.head _)) (by simp)
  | a :: l, [], _, _, h => absurd ((h a).mp (.head _)) (by simp)
  | a :: l, b :: m, h1, h2, h => by
    obtain ⟨ha, hl⟩ := List.pairwise_cons.mp h1
    obtain ⟨hb, hm⟩ := List.pairwise_cons.mp h2
    have hab : a = b := by
      rcases List.mem_cons.mp ((h a).mp (.head _)) with e | e
      · exact e
      · rcases List.mem_cons.mp ((h b).mpr (.head _)) with e' | e'
        · exact e'.symm
        · exact absurd (hb a e) (asym _ _ (ha b e'))
    subst hab
    rw [eq_of_mem asym hl hm fun x => ?_]
    constructor
    · intro hx
      rcases List.mem_cons.mp ((h x).mp (.tail _ hx)) with e | e
      · subst e; exact absurd (ha x hx) (asym _ _ (ha x hx))
      · exact e
    · intro hx
      rcases List.mem_cons.mp ((h x).mpr (.tail _ hx)) with e | e
      · subst e; exact absurd (hb x hx) (asym _ _ (hb x hx))
      · exact e
theorem ins_pw {R : Nat → Nat → Prop} {ps : List Nat} {x k : Nat} (h : ps.Pairwise R) (h1 : ∀ a ∈ ps.take k, R a x) (h2 : ∀ b ∈ ps.drop k, R x b) : (ps.take k ++ x :: ps.drop k).Pairwise R := by
  have e : (ps.take k ++ ps.drop k).Pairwise R := by rw [List.take_append_drop]; exact h
  obtain ⟨p1, p2, p3⟩ := List.pairwise_append.mp e
  refine List.pairwise_append.mpr ⟨p1, List.pairwise_cons.mpr ⟨h2, p2⟩, fun a ha b hb => ?_⟩
  rcases List.mem_cons.mp hb with rfl | hb
  · exact h1 a ha
  · exact p3 a ha b hb
theorem take_idx {l : List Nat} {k x : Nat} (h : x ∈ l.take k) : ∃ i, i < k ∧ i < l.length ∧ l.getD i 0 = x := by
  have : x ∈ (l.take k).drop 0 := h
  obtain ⟨i, _, h2, h3, h4⟩ := mem_run.mp this
  exact ⟨i, h2, h3, h4⟩
theorem drop_idx {l : List Nat} {k x : Nat} (h : x ∈ l.drop k) : ∃ i, k ≤ i ∧ i < l.length ∧ l.getD i 0 = x := by
  have : x ∈ (l.take l.length).drop k := by rw [List.take_length]; exact h
  obtain ⟨i, h1, _, h3, h4⟩ := mem_run.mp this
  exact ⟨i, h1, h3, h4⟩
theorem take_le : ∀ (m : Nat) (x y : List Nat), x ≤ y → x.take m ≤ y.take m
  | 0, _, _, _ => by simp
  | m + 1, [], y, _ => by simp
  | m + 1, a :: x, [], h => by simp at h
  | m + 1, a :: x, b :: y, h => by
    rw [List.take_succ_cons, List.take_succ_cons]
    rcases List.cons_le_cons_iff.mp h with h | ⟨h1, h2⟩
    · exact List.cons_le_cons_iff.mpr (.inl h)
    · exact List.cons_le_cons_iff.mpr (.inr ⟨h1, take_le m x y h2⟩)
theorem lt_or_eq_of_le' {x y : List Nat} (h : x ≤ y) : x < y ∨ x = y := by
  by_cases e : x < y
  · exact .inl e
  · exact .inr (List.le_antisymm h e)
theorem keyOf_eq (tx : List Nat) (z p : Nat) : keyOf tx z p = (tx.drop p).take z := by
  show (tx.take (p + z)).drop p = _
  rw [List.drop_take, Nat.add_sub_cancel_left]
theorem keyOf_all (tx : List Nat) (p : Nat) : keyOf tx tx.length p = tx.drop p := by
  rw [keyOf_eq, List.take_of_length_le (by simp)]
/- the row -/
structure Laid (tx : List Nat) (i : Nat) (ps : List Nat) : Prop where
  pw : ps.Pairwise (fun a b => tx.drop a < tx.drop b)
  mem : ∀ q, q ∈ ps ↔ q < i
theorem drop_ne {tx : List Nat} {a b : Nat} (h : a < b) (hb : a < tx.length) : tx.drop a ≠ tx.drop b := fun e => by
  have := congrArg List.length e
  simp at this
  first | with_reducible exact s69 ‹_› ‹_› ‹_› | lia | omega
theorem ins_mem {ps : List Nat} {k i : Nat} (h : ∀ q, q ∈ ps ↔ q < i) : ∀ q, q ∈ ps.take k ++ i :: ps.drop k ↔ q < i + 1 := fun q => by
  have e : q ∈ ps ↔ q ∈ ps.take k ∨ q ∈ ps.drop k := by
    conv => lhs; rw [← List.take_append_drop k ps]
    rw [List.mem_append]
  rw [List.mem_append, List.mem_cons, show (q < i + 1) ↔ (q < i ∨ q = i) by first | with_reducible exact Nat.lt_succ_iff_lt_or_eq | lia | omega, ← h q, e]
  constructor
  · rintro (h | h | h)
    · exact .inl (.inl h)
    · exact .inr h
    · exact .inl (.inr h)
  · rintro ((h | h) | h)
    · exact .inl h
    · exact .inr (.inr h)
    · exact .inr (.inl h)
theorem lspot_is {tx ps : List Nat} {i : Nat} (hi : i < tx.length) (h : Laid tx i ps) : lspot tx ps i ≤ ps.length ∧ (∀ j, j < lspot tx ps i → tx.drop (ps.getD j 0) < tx.drop i) ∧ (∀ j, lspot tx ps i ≤ j → j < ps.length → tx.drop i < tx.drop (ps.getD j 0)) ∧ rspot tx ps i = lspot tx ps i := by
  have key : ∀ j, keyOf tx tx.length (ps.getD j 0) = tx.drop (ps.getD j 0) := fun j => keyOf_all ..
  obtain ⟨k, h1, h2, h3⟩ := cut_at (fun q => decide (tx.drop q < tx.drop i)) ps (h.pw.imp fun {a b} hab hb => decide_eq_true (List.lt_trans hab (of_decide_eq_true hb)))
  have g : ∀ j, k ≤ j → j < ps.length → tx.drop i < tx.drop (ps.getD j 0) := fun j hj hl => by
    have a1 : ¬ tx.drop (ps.getD j 0) < tx.drop i := of_decide_eq_false (h3 j hj hl)
    have lt : ps.getD j 0 < i := (h.mem _).mp (getD_mem hl)
    rcases lt_or_eq_of_le' (x := tx.drop i) a1 with e | e
    · exact e
    · exact absurd e.symm (drop_ne lt (by first | with_reducible exact Nat.lt_trans ‹_› ‹_› | lia | omega))
  have e : lspot tx ps i = k := by
    unfold lspot
    simp only [key]
    exact bis_all _ k _ h1 (fun j hj => h2 j hj) (fun j hj hl => h3 j hj hl)
  rw [e]
  refine ⟨h1, fun j hj => of_decide_eq_true (h2 j hj), g, ?_⟩
  unfold rspot
  simp only [key]
  refine bis_all _ k _ h1 (fun j hj => ?_) (fun j hj hl => ?_)
  · have := of_decide_eq_true (h2 j hj)
    rw [decide_eq_false (List.lt_asymm this)]; rfl
  · rw [decide_eq_true (g j hj hl)]; rfl
theorem laid_is (tx : List Nat) : ∀ i, i ≤ tx.length → Laid tx i (laidTo tx tx.length i)
  | 0, _ => ⟨List.Pairwise.nil, fun q => by simp [laidTo]⟩
  | i + 1, hi => by
    have ih := laid_is tx i (by first | decide | assumption | exact a1 ‹_› | exact a2 ‹_› | exact a3 ‹_› (by decide) | exact dl ‹_› | exact ee ‹_› ‹_› | lia | omega)
    obtain ⟨h1, h2, h3, _⟩ := lspot_is (by first | decide | assumption | exact a1 ‹_› | exact a2 ‹_› | exact a3 ‹_› (by decide) | exact dl ‹_› | exact ee ‹_› ‹_› | lia | omega) ih
    have e : insAt tx tx.length (laidTo tx tx.length i) i = lspot tx (laidTo tx tx.length i) i := by
      unfold lspot
      simp only [insAt, keyOf_all]
    rewrite [laidTo]
    rw [e]
    refine ⟨ins_pw ih.pw (fun a ha => ?_) (fun b hb => ?_), ins_mem ih.mem⟩
    · obtain ⟨j, j1, j2, rfl⟩ := take_idx ha
      exact h2 j j1
    · obtain ⟨j, j1, j2, rfl⟩ := drop_idx hb
      exact h3 j j1 j2
/- the second row -/
noncomputable def headR (tx : List Nat) (a b : Nat) : Prop := tx.getD a 0 < tx.getD b 0 ∨ (tx.getD a 0 = tx.getD b 0 ∧ b < a)
theorem key1 {tx : List Nat} {q : Nat} (h : q < tx.length) : keyOf tx 1 q = [tx.getD q 0] := by
  rw [keyOf_eq, List.drop_eq_getElem_cons h, List.take_succ_cons, List.take_zero, List.getD_eq_getElem?_getD, List.getElem?_eq_getElem h]; rfl
theorem one_lt {a b : Nat} : ([a] < [b]) ↔ a < b := by
  rw [List.cons_lt_cons_iff]; simp
theorem heads_is (tx : List Nat) : ∀ i, i ≤ tx.length → (laidTo tx 1 i).Pairwise (headR tx) ∧ ∀ q, q ∈ laidTo tx 1 i ↔ q < i
  | 0, _ => ⟨List.Pairwise.nil, fun q => by simp [laidTo]⟩
  | i + 1, hi => by
    obtain ⟨ih, im⟩ := heads_is tx i (by first | decide | assumption | exact a1 ‹_› | exact a2 ‹_› | exact a3 ‹_› (by decide) | exact dl ‹_› | exact ee ‹_› ‹_› | lia | omega)
    generalize hps : laidTo tx 1 i = ps at ih im
    have lt : ∀ j, j < ps.length → ps.getD j 0 < i := fun j hj => (im _).mp (getD_mem hj)
    obtain ⟨k, h1, h2, h3⟩ := cut_at (fun q => decide (tx.getD q 0 < tx.getD i 0)) ps (ih.imp fun {a b} hab hb => by
      have hb := of_decide_eq_true hb
      refine decide_eq_true ?_
      rcases hab with h | ⟨h, _⟩ <;> first | with_reducible exact t68 ‹_› ‹_› | with_reducible exact t69 ‹_› ‹_› | lia | omega)
    have e : insAt tx 1 ps i = k := by
      refine bis_all _ k _ h1 (fun j hj => ?_) (fun j hj hl => ?_)
      · rw [key1 (by have := lt j (by first | with_reducible exact Nat.lt_of_lt_of_le ‹_› ‹_› | lia | omega); first | exact Nat.lt_trans ‹_› ‹_› | lia | omega), key1 (by first | decide | assumption | exact a1 ‹_› | exact a2 ‹_› | exact a3 ‹_› (by decide) | exact dl ‹_› | exact ee ‹_› ‹_› | lia | omega)]
        exact decide_eq_true (one_lt.mpr (of_decide_eq_true (h2 j hj)))
      · rw [key1 (by have := lt j hl; first | exact Nat.lt_trans ‹_› ‹_› | lia | omega), key1 (by first | decide | assumption | exact a1 ‹_› | exact a2 ‹_› | exact a3 ‹_› (by decide) | exact dl ‹_› | exact ee ‹_› ‹_› | lia | omega)]
        exact decide_eq_false fun q => of_decide_eq_false (h3 j hj hl) (one_lt.mp q)
    rewrite [laidTo]
    rw [hps, e]
    refine ⟨ins_pw ih (fun a ha => ?_) (fun b hb => ?_), ins_mem im⟩
    · obtain ⟨j, j1, j2, rfl⟩ := take_idx ha
      exact .inl (of_decide_eq_true (h2 j j1))
    · obtain ⟨j, j1, j2, rfl⟩ := drop_idx hb
      have h4 := of_decide_eq_false (h3 j j1 j2)
      have := lt j j2
      unfold headR
      first | with_reducible exact t54 ‹_› ‹_› | lia | omega
noncomputable def headsL (tx : List Nat) : List Nat := [1, 65, 97, 255].flatMap fun c => (List.range tx.length).reverse.filter fun q => tx.getD q 0 == c
theorem heads_eq {tx : List Nat} (ha : ∀ c ∈ tx, c ∈ [1, 65, 97, 255]) : laidTo tx 1 tx.length = headsL tx := by
  obtain ⟨h1, h2⟩ := heads_is tx tx.length (Nat.le_refl _)
  have one : ∀ c, ((List.range tx.length).reverse.filter fun q => tx.getD q 0 == c).Pairwise (headR tx) := fun c => by
    have : ((List.range tx.length).reverse.filter fun q => tx.getD q 0 == c).Pairwise (fun a b => b < a) := List.Pairwise.filter _ (List.pairwise_reverse.mpr List.pairwise_lt_range)
    refine List.Pairwise.imp_of_mem (fun {a b} ha hb hab => ?_) this
    have e1 : tx.getD a 0 = c := by simpa using (List.mem_filter.mp ha).2
    have e2 : tx.getD b 0 = c := by simpa using (List.mem_filter.mp hb).2
    exact .inr ⟨by rw [e1, e2], hab⟩
  have cross : ∀ c d, c < d → ∀ a ∈ (List.range tx.length).reverse.filter (fun q => tx.getD q 0 == c), ∀ b ∈ (List.range tx.length).reverse.filter (fun q => tx.getD q 0 == d), headR tx a b := fun c d hcd a ha b hb => by
    have e1 : tx.getD a 0 = c := by simpa using (List.mem_filter.mp ha).2
    have e2 : tx.getD b 0 = d := by simpa using (List.mem_filter.mp hb).2
    exact .inl (by rw [e1, e2]; exact hcd)
  refine eq_of_mem (R := headR tx) (fun a b h h' => by unfold headR at h h'; first | with_reducible exact t51 ‹_› ‹_› | lia | omega) h1 ?_ fun q => ?_
  · unfold headsL
    simp only [List.flatMap_cons, List.flatMap_nil, List.append_nil]
    refine List.pairwise_append.mpr ⟨one _, List.pairwise_append.mpr ⟨one _, List.pairwise_append.mpr ⟨one _, one _, cross _ _ (by decide)⟩, fun a ha b hb => ?_⟩, fun a ha b hb => ?_⟩
    · rcases List.mem_append.mp hb with hb | hb
      · exact cross _ _ (by decide) a ha b hb
      · exact cross _ _ (by decide) a ha b hb
    · rcases List.mem_append.mp hb with hb | hb
      · exact cross _ _ (by decide) a ha b hb
      · rcases List.mem_append.mp hb with hb | hb
        · exact cross _ _ (by decide) a ha b hb
        · exact cross _ _ (by decide) a ha b hb
  · rw [h2]
    unfold headsL
    rw [List.mem_flatMap]
    constructor
    · intro hq
      exact ⟨tx.getD q 0, ha _ (getD_mem hq), List.mem_filter.mpr ⟨by simpa using hq, by simp⟩⟩
    · rintro ⟨c, _, hc⟩
      simpa using (List.mem_filter.mp hc).1
theorem sorted_eq {tx : List Nat} {qs : List (List Nat)} (h1 : qs.Perm ((List.range tx.length).map fun p => tx.drop p)) (h2 : qs.Pairwise fun a b => ¬ b < a) : (laidTo tx tx.length tx.length).map (fun p => tx.drop p) = qs := by
  have L := laid_is tx tx.length (Nat.le_refl _)
  have nd : ((List.range tx.length).map fun p => tx.drop p).Nodup := by
    refine List.pairwise_map.mpr (List.Pairwise.imp_of_mem (fun {a b} ha hb hab => drop_ne hab (List.mem_range.mp ha)) List.pairwise_lt_range)
  have nq : qs.Nodup := h1.nodup_iff.mpr nd
  refine eq_of_mem (R := fun a b : List Nat => a < b) (fun a b h h' => List.lt_asymm h h') (List.pairwise_map.mpr L.pw) ?_ fun x => ?_
  · refine (List.pairwise_and_iff.mpr ⟨h2, nq⟩).imp fun {a b} h => ?_
    rcases lt_or_eq_of_le' (x := a) h.1 with e | e
    · exact e
    · exact absurd e h.2
  · rw [h1.mem_iff, List.mem_map, List.mem_map]
    constructor
    · rintro ⟨p, hp, e⟩
      exact ⟨p, List.mem_range.mpr ((L.mem p).mp hp), e⟩
    · rintro ⟨p, hp, e⟩
      exact ⟨p, (L.mem p).mpr (List.mem_range.mp hp), e⟩
noncomputable def IsRun (tx : List Nat) (p z : Nat) : Prop := (tx.drop p).take z = List.replicate z (tx.getD p 0)
noncomputable def IsCopy (tx : List Nat) (q p z : Nat) : Prop := p + z ≤ tx.length ∧ (tx.drop q).take z = (tx.drop p).take z
theorem IsRun.le {tx : List Nat} {p z : Nat} (hp : p < tx.length) (h : IsRun tx p z) : p + z ≤ tx.length := by
  have := congrArg List.length h
  simp at this
  first | with_reducible exact t64 ‹_› ‹_› | lia | omega
theorem IsRun.down {tx : List Nat} {p z y : Nat} (h : IsRun tx p z) (hy : y ≤ z) : IsRun tx p y := by
  have := congrArg (List.take y) h
  rw [List.take_take, List.take_replicate, Nat.min_eq_left hy] at this
  exact this
theorem IsCopy.down {tx : List Nat} {q p z y : Nat} (h : IsCopy tx q p z) (hy : y ≤ z) : IsCopy tx q p y := by
  have := congrArg (List.take y) h.2
  rw [List.take_take, List.take_take, Nat.min_eq_left hy] at this
  exact ⟨by have := h.1; first | lia | omega, this⟩
theorem runW_is {tx : List Nat} {p : Nat} (hp : p < tx.length) : ∀ f r, 1 ≤ r → IsRun tx p r → tx.length ≤ p + r + f → 1 ≤ runW tx p f r ∧ IsRun tx p (runW tx p f r) ∧ ∀ z, IsRun tx p z → z ≤ runW tx p f r
  | 0, r, h1, h2, h3 => ⟨h1, h2, fun z hz => by have := hz.le hp; show z ≤ r; first | lia | omega⟩
  | f + 1, r, h1, h2, h3 => by
    rewrite [runW]
    have e : (tx.take (p + r + 1)).drop p = (tx.drop p).take (r + 1) := by
      rw [List.drop_take, show p + r + 1 - p = r + 1 by first | with_reducible exact s54 | lia | omega]
    rw [e]
    by_cases hc : (tx.drop p).take (r + 1) = List.replicate (r + 1) (tx.getD p 0)
    · rw [if_pos hc]
      exact runW_is hp f (r + 1) (by first | with_reducible exact Nat.le_add_left .. | lia | omega) hc (by first | with_reducible exact t83 ‹_› | lia | omega)
    · rw [if_neg hc]
      refine ⟨h1, h2, fun z hz => ?_⟩
      by_cases hzr : z ≤ r
      · exact hzr
      · exact absurd (hz.down (by first | decide | assumption | exact a1 ‹_› | exact a2 ‹_› | exact a3 ‹_› (by decide) | exact dl ‹_› | exact ee ‹_› ‹_› | lia | omega)) hc
theorem copy_next {tx : List Nat} {q p z : Nat} (hqp : q < p) (h : IsCopy tx q p z) : IsCopy tx q p (z + 1) ↔ p + z < tx.length ∧ tx.getD (q + z) 0 = tx.getD (p + z) 0 := by
  have one : ∀ k, k + z < tx.length → (tx.drop k).take (z + 1) = (tx.drop k).take z ++ [tx.getD (k + z) 0] := fun k hk => by
    rw [List.take_add_one, List.getElem?_drop, getD_some hk]; rfl
  constructor
  · rintro ⟨h1, h2⟩
    rw [one q (by first | exact t61 ‹_› ‹_› | lia | omega), one p (by first | decide | assumption | exact a1 ‹_› | exact a2 ‹_› | exact a3 ‹_› (by decide) | exact dl ‹_› | exact ee ‹_› ‹_› | lia | omega), h.2] at h2
    have := List.append_cancel_left h2
    exact ⟨by first | decide | assumption | exact a1 ‹_› | exact a2 ‹_› | exact a3 ‹_› (by decide) | exact dl ‹_› | exact ee ‹_› ‹_› | lia | omega, by simpa using this⟩
  · rintro ⟨h1, h2⟩
    refine ⟨by first | decide | assumption | exact a1 ‹_› | exact a2 ‹_› | exact a3 ‹_› (by decide) | exact dl ‹_› | exact ee ‹_› ‹_› | lia | omega, ?_⟩
    rw [one q (by first | with_reducible exact t61 ‹_› ‹_› | lia | omega), one p (by first | decide | assumption | exact a1 ‹_› | exact a2 ‹_› | exact a3 ‹_› (by decide) | exact dl ‹_› | exact ee ‹_› ‹_› | lia | omega), h.2, h2]
theorem comW_is {tx : List Nat} {q p : Nat} (hqp : q < p) : ∀ f r, IsCopy tx q p r → tx.length ≤ p + r + f → IsCopy tx q p (comW tx q p f r) ∧ ∀ z, IsCopy tx q p z → z ≤ comW tx q p f r
  | 0, r, h2, h3 => ⟨h2, fun z hz => by have := hz.1; show z ≤ r; first | lia | omega⟩
  | f + 1, r, h2, h3 => by
    rewrite [comW]
    by_cases hc : p + r < tx.length ∧ tx.getD (q + r) 0 = tx.getD (p + r) 0
    · rw [if_pos hc]
      exact comW_is hqp f (r + 1) ((copy_next hqp h2).mpr hc) (by first | with_reducible exact t83 ‹_› | lia | omega)
    · rw [if_neg hc]
      refine ⟨h2, fun z hz => ?_⟩
      by_cases hzr : z ≤ r
      · exact hzr
      · exact absurd ((copy_next hqp h2).mp (hz.down (by first | decide | assumption | exact a1 ‹_› | exact a2 ‹_› | exact a3 ‹_› (by decide) | exact dl ‹_› | exact ee ‹_› ‹_› | lia | omega))) hc
theorem nearMax_is (tx : List Nat) (p : Nat) : ∀ (qs : List Nat) (r : Nat), r ≤ nearMax tx p qs r ∧ (∀ q ∈ qs, comW tx q p tx.length 0 ≤ nearMax tx p qs r) ∧ (nearMax tx p qs r = r ∨ ∃ q ∈ qs, nearMax tx p qs r = comW tx q p tx.length 0)
  | [], r => ⟨Nat.le_refl _, (fun q h => nomatch h), .inl rfl⟩
  | q :: qs, r => by
    obtain ⟨h1, h2, h3⟩ := nearMax_is tx p qs (max r (comW tx q p tx.length 0))
    show r ≤ nearMax tx p qs (max r (comW tx q p tx.length 0)) ∧ (∀ q' ∈ q :: qs, comW tx q' p tx.length 0 ≤ nearMax tx p qs (max r (comW tx q p tx.length 0))) ∧ (nearMax tx p qs (max r (comW tx q p tx.length 0)) = r ∨ ∃ q' ∈ q :: qs, nearMax tx p qs (max r (comW tx q p tx.length 0)) = comW tx q' p tx.length 0)
    refine ⟨by first | with_reducible exact s45 ‹_› | lia | omega, fun q' hq => ?_, ?_⟩
    · rcases List.mem_cons.mp hq with rfl | hq
      · first | with_reducible exact s46 ‹_› | lia | omega
      · exact h2 q' hq
    · rcases h3 with h3 | ⟨q', hq, h3⟩
      · rcases Nat.le_total r (comW tx q p tx.length 0) with h | h
        · exact .inr ⟨q, .head _, by rw [h3]; first | lia | omega⟩
        · exact .inl (by rw [h3]; first | with_reducible exact Nat.max_eq_left ‹_› | lia | omega)
      · exact .inr ⟨q', .tail _ hq, h3⟩
theorem between {x y z : List Nat} (h1 : x ≤ y) (h2 : y ≤ z) {m : Nat} (h : x.take m = z.take m) : y.take m = x.take m := by
  have a := take_le m _ _ h1
  have b := take_le m _ _ h2
  rw [← h] at b
  exact List.le_antisymm b a
theorem lt_le' {x y z : List Nat} (h : x < y) (h2 : y ≤ z) : x < z := by
  rcases lt_or_eq_of_le' h2 with e | e
  · exact List.lt_trans h e
  · exact e ▸ h
structure Reach (tx : List Nat) (p r : Nat) : Prop where
  pos : 1 ≤ r
  is : IsRun tx p r ∨ ∃ q, q < p ∧ IsCopy tx q p r
  run : ∀ z, IsRun tx p z → z ≤ r
  copy : ∀ q z, q < p → IsCopy tx q p z → z ≤ r
theorem one_run {tx : List Nat} {p : Nat} (hp : p < tx.length) : IsRun tx p 1 := by
  have := key1 hp
  rw [keyOf_eq] at this
  exact this
theorem reach_is {tx : List Nat} {p : Nat} (hp : p < tx.length) : Reach tx p (reachOf tx (laidTo tx tx.length p) p) := by
  have L := laid_is tx p (by first | decide | assumption | exact a1 ‹_› | exact a2 ‹_› | exact a3 ‹_› (by decide) | exact dl ‹_› | exact ee ‹_› ‹_› | lia | omega)
  generalize laidTo tx tx.length p = ps at L
  obtain ⟨k1, k2, k3, _⟩ := lspot_is hp L
  obtain ⟨r1, r2, r3⟩ := runW_is hp tx.length 1 (Nat.le_refl _) (one_run hp) (by first | with_reducible exact Nat.le_add_left .. | lia | omega)
  unfold reachOf
  obtain ⟨n1, n2, n3⟩ := nearMax_is tx p ((ps.take (lspot tx ps p + 1)).drop (lspot tx ps p - 1)) (runW tx p tx.length 1)
  generalize hk : lspot tx ps p = k at *
  generalize hr : nearMax tx p ((ps.take (k + 1)).drop (k - 1)) (runW tx p tx.length 1) = r at *
  have cm : ∀ q, q < p → IsCopy tx q p (comW tx q p tx.length 0) ∧ ∀ z, IsCopy tx q p z → z ≤ comW tx q p tx.length 0 := fun q hq =>
    comW_is hq tx.length 0 ⟨by first | decide | assumption | exact a1 ‹_› | exact a2 ‹_› | exact a3 ‹_› (by decide) | exact dl ‹_› | exact ee ‹_› ‹_› | lia | omega, by simp⟩ (by first | with_reducible exact Nat.le_add_left .. | lia | omega)
  have near : ∀ j, k - 1 ≤ j → j < k + 1 → j < ps.length → comW tx (ps.getD j 0) p tx.length 0 ≤ r := fun j h1 h2 h3 => n2 _ (mem_run.mpr ⟨j, h1, h2, h3, rfl⟩)
  have lt : ∀ j, j < ps.length → ps.getD j 0 < p := fun j hj => (L.mem _).mp (getD_mem hj)
  refine ⟨by first | with_reducible exact Nat.le_trans ‹_› ‹_› | lia | omega, ?_, fun z hz => Nat.le_trans (r3 z hz) n1, fun q z hq hc => ?_⟩
  · rcases n3 with e | ⟨q, hq, e⟩
    · rw [e]; exact .inl r2
    · obtain ⟨j, j1, j2, j3, rfl⟩ := mem_run.mp hq
      rw [e]; exact .inr ⟨_, lt j j3, (cm _ (lt j j3)).1⟩
  · obtain ⟨j, hj, rfl⟩ := mem_getD ((L.mem q).mpr hq)
    have ord : ∀ i i', i ≤ i' → i' < ps.length → tx.drop (ps.getD i 0) ≤ tx.drop (ps.getD i' 0) := fun i i' h1 h2 => by
      rcases Nat.lt_or_eq_of_le h1 with h | rfl
      · exact List.le_of_lt (pw_getD L.pw h h2)
      · exact List.le_refl _
    by_cases hjk : j < k
    · have c : IsCopy tx (ps.getD (k - 1) 0) p z := ⟨hc.1, by
        have := between (ord j (k - 1) (by first | with_reducible exact s3 ‹_› | lia | omega) (by first | decide | assumption | exact a1 ‹_› | exact a2 ‹_› | exact a3 ‹_› (by decide) | exact dl ‹_› | exact ee ‹_› ‹_› | lia | omega)) (List.le_of_lt (k2 (k - 1) (by first | with_reducible exact s2 ‹_› | lia | omega))) hc.2
        rw [this]; exact hc.2⟩
      exact Nat.le_trans ((cm _ (lt _ (by first | decide | assumption | exact a1 ‹_› | exact a2 ‹_› | exact a3 ‹_› (by decide) | exact dl ‹_› | exact ee ‹_› ‹_› | lia | omega))).2 z c) (near (k - 1) (by first | decide | assumption | exact a1 ‹_› | exact a2 ‹_› | exact a3 ‹_› (by decide) | exact dl ‹_› | exact ee ‹_› ‹_› | lia | omega) (by first | decide | assumption | exact a1 ‹_› | exact a2 ‹_› | exact a3 ‹_› (by decide) | exact dl ‹_› | exact ee ‹_› ‹_› | lia | omega) (by first | decide | assumption | exact a1 ‹_› | exact a2 ‹_› | exact a3 ‹_› (by decide) | exact dl ‹_› | exact ee ‹_› ‹_› | lia | omega))
    · have c : IsCopy tx (ps.getD k 0) p z := ⟨hc.1, between (List.le_of_lt (k3 k (by first | decide | assumption | exact a1 ‹_› | exact a2 ‹_› | exact a3 ‹_› (by decide) | exact dl ‹_› | exact ee ‹_› ‹_› | lia | omega) (by first | with_reducible exact t74 ‹_› ‹_› | lia | omega))) (ord k j (by first | with_reducible exact Nat.le_of_not_lt ‹_› | lia | omega) hj) hc.2.symm⟩
      exact Nat.le_trans ((cm _ (lt _ (by first | with_reducible exact t74 ‹_› ‹_› | lia | omega))).2 z c) (near k (by first | with_reducible exact Nat.sub_le _ _ | lia | omega) (by first | decide | assumption | exact a1 ‹_› | exact a2 ‹_› | exact a3 ‹_› (by decide) | exact dl ‹_› | exact ee ‹_› ‹_› | lia | omega) (by first | with_reducible exact t74 ‹_› ‹_› | lia | omega))
theorem reachTo_get (tx : List Nat) : ∀ i p, p < i → (reachTo tx i).getD p 0 = reachOf tx (laidTo tx tx.length p) p
  | 0, p, h => by first | decide | assumption | exact a1 ‹_› | exact a2 ‹_› | exact a3 ‹_› (by decide) | exact dl ‹_› | exact ee ‹_› ‹_› | lia | omega
  | i + 1, p, h => by
    rewrite [reachTo]
    rw [List.getD_eq_getElem?_getD]
    by_cases hp : p < i
    · rw [List.getElem?_append_left (by rw [reachTo_len]; exact hp), ← List.getD_eq_getElem?_getD]; exact reachTo_get tx i p hp
    · have : p = i := by first | decide | assumption | exact a1 ‹_› | exact a2 ‹_› | exact a3 ‹_› (by decide) | exact dl ‹_› | exact ee ‹_› ‹_› | lia | omega
      subst this
      rw [List.getElem?_append_right (by rw [reachTo_len]; exact Nat.le_refl _), reachTo_len, Nat.sub_self]; rfl
noncomputable abbrev rsOf (tx : List Nat) : List Nat := reachTo tx tx.length
theorem rs_is {tx : List Nat} {p : Nat} (hp : p < tx.length) : Reach tx p ((rsOf tx).getD p 0) := by
  rw [reachTo_get tx _ p hp]; exact reach_is hp
theorem Reach.le {tx : List Nat} {p r : Nat} (hp : p < tx.length) (h : Reach tx p r) : p + r ≤ tx.length := by
  rcases h.is with h | ⟨q, _, h⟩
  · exact h.le hp
  · exact h.1
/- the places -/
theorem places_is (tx pc : List Nat) (z : Nat) : ∀ i, (placesC tx pc z i).Pairwise (· < ·) ∧ ∀ q, q ∈ placesC tx pc z i ↔ q < i ∧ (tx.drop q).take z = pc
  | 0 => ⟨List.Pairwise.nil, fun q => by simp [placesC]⟩
  | i + 1 => by
    obtain ⟨h1, h2⟩ := places_is tx pc z i
    have e : (tx.take (i + z)).drop i = (tx.drop i).take z := keyOf_eq tx z i
    rewrite [placesC]
    rw [e]
    split
    · rename_i hc
      refine ⟨List.pairwise_append.mpr ⟨h1, List.pairwise_singleton .., fun a ha b hb => ?_⟩, fun q => ?_⟩
      · rw [List.mem_singleton.mp hb]; exact ((h2 a).mp ha).1
      · rw [List.mem_append, h2, List.mem_singleton]
        constructor
        · rintro (⟨a, b⟩ | rfl)
          · exact ⟨by first | with_reducible exact Nat.lt_succ_of_lt ‹_› | lia | omega, b⟩
          · exact ⟨by first | decide | assumption | exact a1 ‹_› | exact a2 ‹_› | exact a3 ‹_› (by decide) | exact dl ‹_› | exact ee ‹_› ‹_› | lia | omega, hc⟩
        · rintro ⟨a, b⟩
          by_cases hq : q = i
          · exact .inr hq
          · exact .inl ⟨by first | decide | assumption | exact a1 ‹_› | exact a2 ‹_› | exact a3 ‹_› (by decide) | exact dl ‹_› | exact ee ‹_› ‹_› | lia | omega, b⟩
    · rename_i hc
      refine ⟨h1, fun q => ?_⟩
      rw [h2]
      constructor
      · rintro ⟨a, b⟩; exact ⟨by first | with_reducible exact Nat.lt_succ_of_lt ‹_› | lia | omega, b⟩
      · rintro ⟨a, b⟩
        by_cases hq : q = i
        · subst hq; exact absurd b hc
        · exact ⟨by first | decide | assumption | exact a1 ‹_› | exact a2 ‹_› | exact a3 ‹_› (by decide) | exact dl ‹_› | exact ee ‹_› ‹_› | lia | omega, b⟩
theorem spot_is {ps : List Nat} {p q : Nat} (hs : ps.Pairwise (· < ·)) (hp : p ∈ ps) (hq : q ∈ ps) (hqp : q < p) : 1 ≤ sLeft ps p ∧ sRight ps p = sLeft ps p + 1 ∧ sLeft ps p < ps.length ∧ ps.getD (sLeft ps p - 1) 0 < p := by
  obtain ⟨k, h1, h2, h3⟩ := cut_at (fun x => decide (x < p)) ps (hs.imp fun {a b} hab hb => decide_eq_true (by have := of_decide_eq_true hb; first | with_reducible exact t68 ‹_› ‹_› | lia | omega))
  have e : sLeft ps p = k := bis_all _ k _ h1 (fun j hj => h2 j hj) (fun j hj hl => h3 j hj hl)
  obtain ⟨i, hi, hi2⟩ := mem_getD hp
  obtain ⟨j, hj, hj2⟩ := mem_getD hq
  have hik : i = k := by
    have a : k ≤ i := by
      by_cases h : k ≤ i
      · exact h
      · have := of_decide_eq_true (h2 i (by first | decide | assumption | exact a1 ‹_› | exact a2 ‹_› | exact a3 ‹_› (by decide) | exact dl ‹_› | exact ee ‹_› ‹_› | lia | omega)); first | lia | omega
    rcases Nat.lt_or_eq_of_le a with h | h
    · have b := of_decide_eq_false (h3 k (Nat.le_refl _) (by first | with_reducible exact Nat.lt_trans ‹_› ‹_› | lia | omega))
      have c := pw_getD hs h hi
      first | lia | omega
    · exact h.symm
  have hjk : j < k := by
    by_cases h : j < k
    · exact h
    · have := of_decide_eq_false (h3 j (by first | with_reducible exact Nat.le_of_not_lt ‹_› | lia | omega) hj); first | lia | omega
  rw [e]
  refine ⟨by first | decide | assumption | exact a1 ‹_› | exact a2 ‹_› | exact a3 ‹_› (by decide) | exact dl ‹_› | exact ee ‹_› ‹_› | lia | omega, ?_, by first | decide | assumption | exact a1 ‹_› | exact a2 ‹_› | exact a3 ‹_› (by decide) | exact dl ‹_› | exact ee ‹_› ‹_› | lia | omega, of_decide_eq_true (h2 (k - 1) (by first | with_reducible exact s2 ‹_› | lia | omega))⟩
  refine bis_all _ (k + 1) _ (by first | decide | assumption | exact a1 ‹_› | exact a2 ‹_› | exact a3 ‹_› (by decide) | exact dl ‹_› | exact ee ‹_› ‹_› | lia | omega) (fun j hj => ?_) (fun j hj hl => ?_)
  · have : ¬ p < ps.getD j 0 := by
      by_cases h : j < k
      · have := of_decide_eq_true (h2 j h); first | lia | omega
      · have : j = i := by first | decide | assumption | exact a1 ‹_› | exact a2 ‹_› | exact a3 ‹_› (by decide) | exact dl ‹_› | exact ee ‹_› ‹_› | lia | omega
        subst this; first | lia | omega
    rw [decide_eq_false this]; rfl
  · have := pw_getD hs (show i < j by first | decide | assumption | exact a1 ‹_› | exact a2 ‹_› | exact a3 ‹_› (by decide) | exact dl ‹_› | exact ee ‹_› ‹_› | lia | omega) hl
    rw [decide_eq_true (by first | decide | assumption | exact a1 ‹_› | exact a2 ‹_› | exact a3 ‹_› (by decide) | exact dl ‹_› | exact ee ‹_› ‹_› | lia | omega)]; rfl
theorem code_ok {tx : List Nat} (ha : ∀ c ∈ tx, c < 256) {p : Nat} (hp : p < tx.length) (hnr : pieceAt tx (rsOf tx) p ≠ List.replicate ((rsOf tx).getD p 0) (tx.getD p 0)) :
    CodeOk tx (laidTo tx tx.length tx.length) (rsOf tx) p ∧ ∃ q, q < p ∧ IsCopy tx q p ((rsOf tx).getD p 0) ∧ symAt tx (rsOf tx) p = 256 + q := by
  have R := rs_is hp
  have Rl := R.le hp
  generalize hz : (rsOf tx).getD p 0 = z at *
  have hpc : pieceAt tx (rsOf tx) p = (tx.drop p).take z := by unfold pieceAt; rw [hz]; exact keyOf_eq ..
  generalize hpcd : (tx.drop p).take z = pc at *
  have hpl : pc.length = z := by rw [← hpcd]; simp; first | with_reducible exact s12 ‹_› | lia | omega
  obtain ⟨q₀, hq₀, hc₀⟩ : ∃ q, q < p ∧ IsCopy tx q p z := by
    rcases R.is with h | h
    · exact absurd (hpc.trans (hpcd.symm.trans h)) hnr
    · exact h
  have L := laid_is tx tx.length (Nat.le_refl _)
  generalize laidTo tx tx.length tx.length = laid at L
  obtain ⟨P1, P2⟩ := places_is tx pc z tx.length
  have hpp : p ∈ placesC tx pc z tx.length := (P2 p).mpr ⟨hp, hpcd⟩
  have hqp : q₀ ∈ placesC tx pc z tx.length := (P2 q₀).mpr ⟨by first | with_reducible exact Nat.lt_trans ‹_› ‹_› | lia | omega, hc₀.2.trans hpcd⟩
  obtain ⟨s1, s2, s3, s4⟩ := spot_is P1 hpp hqp hq₀
  have mono : laid.Pairwise (fun a b => (tx.drop a).take z ≤ (tx.drop b).take z) := L.pw.imp fun {a b} h => take_le z _ _ (List.le_of_lt h)
  have e1 : ∀ i, keyOf tx z (laid.getD i 0) = (tx.drop (laid.getD i 0)).take z := fun i => keyOf_eq ..
  obtain ⟨lo, l1, l2, l3⟩ := cut_at (fun q => decide ((tx.drop q).take z < pc)) laid (mono.imp fun {a b} h hb => decide_eq_true (List.lt_of_le_of_lt h (of_decide_eq_true hb)))
  obtain ⟨hi, h1, h2, h3⟩ := cut_at (fun q => !decide (pc < (tx.drop q).take z)) laid (mono.imp fun {a b} h hb => by
    have hb : ¬ pc < (tx.drop b).take z := by simpa using hb
    have : ¬ pc < (tx.drop a).take z := fun hc => hb (lt_le' hc h)
    rw [decide_eq_false this]; rfl)
  have elo : lowC tx laid pc z = lo := by
    unfold lowC
    simp only [e1]
    exact bis_all _ lo _ l1 (fun j hj => l2 j hj) (fun j hj hl => l3 j hj hl)
  have ehi : highC tx laid pc z = hi := by
    unfold highC
    simp only [e1]
    exact bis_all _ hi _ h1 (fun j hj => h2 j hj) (fun j hj hl => h3 j hj hl)
  have hle : lo ≤ hi := by
    by_cases h : lo ≤ hi
    · exact h
    · have a := of_decide_eq_true (l2 hi (by first | decide | assumption | exact a1 ‹_› | exact a2 ‹_› | exact a3 ‹_› (by decide) | exact dl ‹_› | exact ee ‹_› ‹_› | lia | omega))
      have b : pc < (tx.drop (laid.getD hi 0)).take z := by simpa using h3 hi (Nat.le_refl _) (by first | decide | assumption | exact a1 ‹_› | exact a2 ‹_› | exact a3 ‹_› (by decide) | exact dl ‹_› | exact ee ‹_› ‹_› | lia | omega)
      exact absurd a (List.lt_asymm b)
  have inn : ∀ i, lo ≤ i → i < hi → (tx.drop (laid.getD i 0)).take z = pc := fun i a b => by
    have c := of_decide_eq_false (l3 i a (by first | with_reducible exact Nat.lt_of_lt_of_le ‹_› ‹_› | lia | omega))
    have d : ¬ pc < (tx.drop (laid.getD i 0)).take z := by simpa using h2 i b
    exact List.le_antisymm d c
  have hne : ([] : List Nat) < pc := by
    cases pc with
    | nil => simp at hpl; have := R.pos; first | lia | omega
    | cons c r => exact List.nil_lt_cons _ _
  have h256 : pc < [256] := by
    cases pc with
    | nil => exact List.nil_lt_cons _ _
    | cons c r =>
      refine List.cons_lt_cons_iff.mpr (.inl (ha c ?_))
      exact List.mem_of_mem_drop (List.mem_of_mem_take (by rw [hpcd]; exact .head _))
  have nn : ¬ pc < ([] : List Nat) := List.lt_asymm hne
  have n256 : ¬ [256] < pc := List.lt_asymm h256
  refine ⟨⟨?_, ?_, ?_, ?_, ?_, ?_, ?_, ?_, ?_, ?_⟩, _, s4, ?_, ?_⟩
  · rw [hz, hpc, elo, ehi]; exact hle
  · rw [hz, hpc, ehi]; exact h1
  · rw [hz, hpc, elo, ehi]
    simp only [e1]
    exact bis_no _ hle (fun j a b => by rw [inn j a b]; exact decide_eq_false nn)
  · rw [hz, hpc, elo, ehi]
    simp only [e1]
    exact bis_no _ hle (fun j a b => by rw [inn j a b, decide_eq_true hne]; rfl)
  · rw [hz, hpc, elo, ehi]
    simp only [e1]
    exact bis_yes _ hle (fun j a b => by rw [inn j a b]; exact decide_eq_true h256)
  · rw [hz, hpc, elo, ehi]
    simp only [e1]
    exact bis_yes _ hle (fun j a b => by rw [inn j a b, decide_eq_false n256]; rfl)
  · rw [hz, hpc, elo, ehi]
    intro qs hq hw
    have nd : laid.Nodup := L.pw.imp fun {a b} h e => by subst e; exact List.lt_irrefl _ h
    have ndq : qs.Nodup := hq.nodup_iff.mpr ((nd.sublist (List.take_sublist ..)).sublist (List.drop_sublist ..))
    refine eq_of_mem (R := (· < ·)) (fun a b h h' => by first | decide | assumption | exact a1 ‹_› | exact a2 ‹_› | exact a3 ‹_› (by decide) | exact dl ‹_› | exact ee ‹_› ‹_› | lia | omega) ((List.pairwise_and_iff.mpr ⟨hw, ndq⟩).imp fun {a b} h => Nat.lt_of_le_of_ne h.1 h.2) P1 fun x => ?_
    rw [hq.mem_iff, mem_run, P2]
    constructor
    · rintro ⟨i, a, b, c, rfl⟩
      exact ⟨(L.mem _).mp (getD_mem c), inn i a b⟩
    · rintro ⟨a, b⟩
      obtain ⟨i, hi1, rfl⟩ := mem_getD ((L.mem x).mpr a)
      refine ⟨i, ?_, ?_, hi1, rfl⟩
      · by_cases h : lo ≤ i
        · exact h
        · have := of_decide_eq_true (l2 i (by first | decide | assumption | exact a1 ‹_› | exact a2 ‹_› | exact a3 ‹_› (by decide) | exact dl ‹_› | exact ee ‹_› ‹_› | lia | omega))
          rw [b] at this
          exact absurd this (List.lt_irrefl _)
      · by_cases h : i < hi
        · exact h
        · have c : pc < (tx.drop (laid.getD i 0)).take z := by simpa using h3 i (by first | with_reducible exact Nat.le_of_not_lt ‹_› | lia | omega) hi1
          rw [b] at c
          exact absurd c (List.lt_irrefl _)
  · rw [hz, hpc]; exact s1
  · rw [hz, hpc]; exact s2
  · rw [hz, hpc]; exact s3
  · exact ⟨Rl, ((P2 _).mp (getD_mem (by first | with_reducible exact t43 ‹_› | lia | omega))).2.trans hpcd.symm⟩
  · unfold symAt
    rw [hz, if_neg hnr, hpc]
theorem okP_iff {tx : List Nat} {p e : Nat} (hpe : p < e) (he : e ≤ tx.length) : okP tx p e = true ↔ IsRun tx p (e - p) ∨ ∃ q, q < p ∧ IsCopy tx q p (e - p) := by
  have e1 : (tx.take e).drop p = (tx.drop p).take (e - p) := List.drop_take
  have e2 : ((tx.drop p).take (e - p)).length = e - p := by simp; first | with_reducible exact s14 ‹_› | lia | omega
  have e3 : (tx.take (e - 1)).length = e - 1 := by simp; first | with_reducible exact t52 ‹_› | lia | omega
  unfold okP
  rw [e1, e2, Bool.or_eq_true, beq_iff_eq, occ_iff, e2, e3]
  have key : ∀ k, k + (e - p) ≤ e - 1 → ((tx.take (e - 1)).drop k).take (e - p) = (tx.drop k).take (e - p) := fun k hk => by
    rw [List.drop_take, List.take_take, Nat.min_eq_left (by first | with_reducible exact s70 ‹_› | lia | omega)]
  constructor
  · rintro (h | ⟨k, h1, h2⟩)
    · exact .inl h
    · exact .inr ⟨k, by first | decide | assumption | exact a1 ‹_› | exact a2 ‹_› | exact a3 ‹_› (by decide) | exact dl ‹_› | exact ee ‹_› ‹_› | lia | omega, by first | with_reducible exact s13 ‹_› ‹_› | lia | omega, by rw [← key k h1]; exact h2⟩
  · rintro (h | ⟨k, h1, h2⟩)
    · exact .inl h
    · exact .inr ⟨k, by first | with_reducible exact s71 ‹_› ‹_› | lia | omega, by rw [key k (by first | with_reducible exact s71 ‹_› ‹_› | lia | omega)]; exact h2.2⟩
theorem seg_tail (tx : List Nat) (p z : Nat) : (tx.drop (p + 1)).take (z - 1) = ((tx.drop p).take z).drop 1 := by
  rw [List.drop_take, List.drop_drop]
theorem okP_tail {tx : List Nat} {p e : Nat} (hpe : p + 1 < e) (he : e ≤ tx.length) (h : okP tx p e = true) : okP tx (p + 1) e = true := by
  rw [okP_iff (by first | decide | assumption | exact a1 ‹_› | exact a2 ‹_› | exact a3 ‹_› (by decide) | exact dl ‹_› | exact ee ‹_› ‹_› | lia | omega) he] at h
  rw [okP_iff (by first | decide | assumption | exact a1 ‹_› | exact a2 ‹_› | exact a3 ‹_› (by decide) | exact dl ‹_› | exact ee ‹_› ‹_› | lia | omega) he]
  rcases h with h | ⟨q, h1, h2⟩
  · refine .inl ?_
    have a : tx.getD (p + 1) 0 = tx.getD p 0 := by
      have := congrArg (fun l => l.getD 1 0) h
      simp only [List.getD_eq_getElem?_getD, List.getElem?_take, List.getElem?_drop, List.getElem?_replicate] at this
      rw [if_pos (by first | with_reducible exact s30 ‹_› | lia | omega), if_pos (by first | with_reducible exact s30 ‹_› | lia | omega)] at this
      simpa [List.getD_eq_getElem?_getD] using this
    show (tx.drop (p + 1)).take (e - (p + 1)) = _
    rw [show e - (p + 1) = (e - p) - 1 by first | exact rfl | lia | omega, seg_tail, h, List.drop_replicate, a]
  · refine .inr ⟨q + 1, by first | exact Nat.lt_succ_of_le ‹_› | lia | omega, by first | with_reducible exact s13 ‹_› ‹_› | lia | omega, ?_⟩
    rw [show e - (p + 1) = (e - p) - 1 by first | exact rfl | lia | omega, seg_tail, seg_tail, h2.2]
theorem fold_min : ∀ (r : List Nat) (x : Nat), r.foldl min x ∈ x :: r ∧ ∀ y ∈ x :: r, r.foldl min x ≤ y
  | [], x => ⟨.head _, fun y hy => by rw [List.mem_singleton.mp hy]; exact Nat.le_refl _⟩
  | a :: r, x => by
    obtain ⟨h1, h2⟩ := fold_min r (min x a)
    show r.foldl min (min x a) ∈ x :: a :: r ∧ ∀ y ∈ x :: a :: r, r.foldl min (min x a) ≤ y
    have h3 := h2 (min x a) (.head _)
    refine ⟨?_, fun y hy => ?_⟩
    · rcases List.mem_cons.mp h1 with e | e
      · rw [e]
        rcases Nat.le_total x a with h | h
        · rw [Nat.min_eq_left h]; exact .head _
        · rw [Nat.min_eq_right h]; exact .tail _ (.head _)
      · exact .tail _ (.tail _ e)
    · rcases List.mem_cons.mp hy with rfl | hy
      · first | with_reducible exact s47 ‹_› | lia | omega
      · rcases List.mem_cons.mp hy with rfl | hy
        · first | with_reducible exact s48 ‹_› | lia | omega
        · exact h2 y (.tail _ hy)
theorem minL_mem {ps : List Nat} (h : ps ≠ []) : minL ps ∈ ps ∧ ∀ y ∈ ps, minL ps ≤ y := by
  cases ps with
  | nil => exact absurd rfl h
  | cons x r => exact fold_min r x
theorem mem_ways {tx fs : List Nat} {p x : Nat} : ∀ j, x ∈ waysTo tx fs p j ↔ ∃ i, i < j ∧ okP tx p (p + 1 + i) = true ∧ x = fs.getD i 0
  | 0 => by simp [waysTo]
  | j + 1 => by
    have ih := mem_ways (tx := tx) (fs := fs) (p := p) (x := x) j
    rewrite [waysTo]
    split
    · rename_i hc
      rw [List.mem_append, ih, List.mem_singleton]
      constructor
      · rintro (⟨i, a, b⟩ | e)
        · exact ⟨i, by first | with_reducible exact Nat.lt_succ_of_lt ‹_› | lia | omega, b⟩
        · exact ⟨j, by first | decide | assumption | exact a1 ‹_› | exact a2 ‹_› | exact a3 ‹_› (by decide) | exact dl ‹_› | exact ee ‹_› ‹_› | lia | omega, hc, e⟩
      · rintro ⟨i, a, b, c⟩
        by_cases hi : i = j
        · subst hi; exact .inr c
        · exact .inl ⟨i, by first | decide | assumption | exact a1 ‹_› | exact a2 ‹_› | exact a3 ‹_› (by decide) | exact dl ‹_› | exact ee ‹_› ‹_› | lia | omega, b, c⟩
    · rename_i hc
      rw [ih]
      constructor
      · rintro ⟨i, a, b⟩; exact ⟨i, by first | with_reducible exact Nat.lt_succ_of_lt ‹_› | lia | omega, b⟩
      · rintro ⟨i, a, b, c⟩
        by_cases hi : i = j
        · subst hi; exact absurd b hc
        · exact ⟨i, by first | decide | assumption | exact a1 ‹_› | exact a2 ‹_› | exact a3 ‹_› (by decide) | exact dl ‹_› | exact ee ‹_› ‹_› | lia | omega, b, c⟩
noncomputable def Few (tx : List Nat) (p : Nat) : Nat := (fewL tx tx.length).getD p 0
theorem fewL_succ (tx : List Nat) (k : Nat) : fewL tx (k + 1) = (1 + minL (waysTo tx (fewL tx k) (tx.length - 1 - k) (k + 1))) :: fewL tx k := rfl
theorem fewL_drop (tx : List Nat) (k : Nat) : ∀ j, (fewL tx (k + j)).drop j = fewL tx k
  | 0 => rfl
  | j + 1 => by
    show (fewL tx (k + j + 1)).drop (j + 1) = _
    rw [fewL_succ, List.drop_succ_cons]; exact fewL_drop tx k j
theorem fewL_get (tx : List Nat) {k : Nat} (hk : k ≤ tx.length) (i : Nat) : (fewL tx k).getD i 0 = Few tx (tx.length - k + i) := by
  have := fewL_drop tx k (tx.length - k)
  rw [show k + (tx.length - k) = tx.length by first | with_reducible exact Nat.add_sub_cancel' ‹_› | lia | omega] at this
  rw [← this]
  unfold Few
  rw [List.getD_eq_getElem?_getD, List.getElem?_drop, ← List.getD_eq_getElem?_getD]
theorem few_rec {tx : List Nat} {p k : Nat} (hk : tx.length = p + 1 + k) : Few tx p = 1 + minL (waysTo tx (fewL tx k) p (k + 1)) := by
  have e := fewL_get tx (k := k + 1) (by omega) 0
  rw [show tx.length - (k + 1) + 0 = p by omega] at e
  rw [← e, fewL_succ, show tx.length - 1 - k = p by omega]
  rfl
theorem few_ways {tx : List Nat} {p k x : Nat} (hk : tx.length = p + 1 + k) : x ∈ waysTo tx (fewL tx k) p (k + 1) ↔ ∃ e, p < e ∧ e ≤ tx.length ∧ okP tx p e = true ∧ x = Few tx e := by
  have e0 : tx.length - k = p + 1 := by rw [hk, Nat.add_sub_cancel]
  have k0 : k ≤ tx.length := by rw [hk]; exact Nat.le_add_left ..
  rw [mem_ways]
  constructor
  · rintro ⟨i, a, b, c⟩
    refine ⟨p + 1 + i, by omega, by omega, b, ?_⟩
    rw [c, fewL_get tx k0, e0]
  · rintro ⟨e, a, b, c, d⟩
    obtain ⟨i, rfl⟩ := Nat.exists_eq_add_of_le a
    refine ⟨i, by omega, c, ?_⟩
    rw [d, fewL_get tx k0, e0]
theorem few_le {tx : List Nat} {p e : Nat} (h1 : p < e) (h2 : e ≤ tx.length) (h : okP tx p e = true) : Few tx p ≤ 1 + Few tx e := by
  obtain ⟨k, hk⟩ := Nat.exists_eq_add_of_le (Nat.lt_of_lt_of_le h1 h2)
  rw [few_rec hk]
  have hm := (few_ways (x := Few tx e) hk).mpr ⟨e, h1, h2, h, rfl⟩
  exact Nat.add_le_add_left ((minL_mem (List.ne_nil_of_mem hm)).2 _ hm) 1
theorem few_ex {tx : List Nat} {p : Nat} (hp : p < tx.length) : ∃ e, p < e ∧ e ≤ tx.length ∧ okP tx p e = true ∧ Few tx p = 1 + Few tx e := by
  obtain ⟨k, hk⟩ := Nat.exists_eq_add_of_le (show p + 1 ≤ tx.length from hp)
  have hm := (few_ways (x := Few tx (p + 1)) hk).mpr ⟨p + 1, Nat.lt_succ_self _, hp, okP_one hp, rfl⟩
  obtain ⟨e, a, b, c, d⟩ := (few_ways hk).mp (minL_mem (List.ne_nil_of_mem hm)).1
  exact ⟨e, a, b, c, by rw [few_rec hk, d]⟩
theorem few_end (tx : List Nat) : Few tx tx.length = 0 := by
  have := fewL_get tx (k := 0) (Nat.zero_le _) 0
  rw [show tx.length - 0 + 0 = tx.length by first | exact rfl | lia | omega] at this
  exact this.symm
theorem few_anti {tx : List Nat} : ∀ {j p : Nat}, p + j ≤ tx.length → Few tx (p + j) ≤ Few tx p
  | 0, _, _ => Nat.le_refl _
  | j + 1, p, h => by
    refine Nat.le_trans (few_anti (j := j) (p := p + 1) (by first | decide | assumption | exact a1 ‹_› | exact a2 ‹_› | exact a3 ‹_› (by decide) | exact dl ‹_› | exact ee ‹_› ‹_› | lia | omega) |> fun q => by rw [show p + (j + 1) = p + 1 + j by first | decide | assumption | exact a1 ‹_› | exact a2 ‹_› | exact a3 ‹_› (by decide) | exact dl ‹_› | exact ee ‹_› ‹_› | lia | omega]; exact q) ?_
    obtain ⟨e, a, b, c, d⟩ := few_ex (tx := tx) (p := p) (by first | decide | assumption | exact a1 ‹_› | exact a2 ‹_› | exact a3 ‹_› (by decide) | exact dl ‹_› | exact ee ‹_› ‹_› | lia | omega)
    by_cases h1 : e = p + 1
    · subst h1; first | lia | omega
    · have := few_le (by first | decide | assumption | exact a1 ‹_› | exact a2 ‹_› | exact a3 ‹_› (by decide) | exact dl ‹_› | exact ee ‹_› ‹_› | lia | omega) b (okP_tail (by first | decide | assumption | exact a1 ‹_› | exact a2 ‹_› | exact a3 ‹_› (by decide) | exact dl ‹_› | exact ee ‹_› ‹_› | lia | omega) b c)
      first | lia | omega
theorem few_greedy {tx : List Nat} {p : Nat} (hp : p < tx.length) : Few tx p = 1 + Few tx (p + (rsOf tx).getD p 0) := by
  have R := rs_is hp
  have Rl := R.le hp
  generalize (rsOf tx).getD p 0 = r at *
  have hr := R.pos
  have h1 : Few tx p ≤ 1 + Few tx (p + r) := few_le (by first | decide | assumption | exact a1 ‹_› | exact a2 ‹_› | exact a3 ‹_› (by decide) | exact dl ‹_› | exact ee ‹_› ‹_› | lia | omega) Rl (by
    rw [okP_iff (by first | decide | assumption | exact a1 ‹_› | exact a2 ‹_› | exact a3 ‹_› (by decide) | exact dl ‹_› | exact ee ‹_› ‹_› | lia | omega) Rl, Nat.add_sub_cancel_left]; exact R.is)
  obtain ⟨e, a, b, c, d⟩ := few_ex hp
  rw [okP_iff a b] at c
  have h2 : e - p ≤ r := by
    rcases c with c | ⟨q, c1, c2⟩
    · exact R.run _ c
    · exact R.copy q _ c1 c2
  have := few_anti (tx := tx) (p := e) (j := p + r - e) (by first | with_reducible exact t35 ‹_› ‹_› | lia | omega)
  rw [show e + (p + r - e) = p + r by first | with_reducible exact s26 ‹_› | lia | omega] at this
  first | with_reducible exact t70 ‹_› ‹_› ‹_› | lia | omega
noncomputable def needL (rs : List Nat) (n : Nat) : Nat → List Nat
  | 0 => [0]
  | k + 1 => (1 + (needL rs n k).getD (rs.getD (n - 1 - k) 0 - 1) 0) :: needL rs n k
theorem needL_len (rs : List Nat) (n : Nat) : ∀ k, (needL rs n k).length = k + 1
  | 0 => rfl
  | k + 1 => by rewrite [needL]; rw [List.length_cons, needL_len rs n k]
theorem need_is (tx : List Nat) : ∀ k, k ≤ tx.length → needL (rsOf tx) tx.length k = fewL tx k
  | 0, _ => rfl
  | k + 1, hk => by
    have ih := need_is tx k (Nat.le_of_succ_le hk)
    obtain ⟨p, hp⟩ := Nat.exists_eq_add_of_le hk
    have e0 : tx.length - 1 - k = p := by first | with_reducible exact s43 ‹_› | lia | omega
    have hpl : p < tx.length := by first | with_reducible exact t84 ‹_› | lia | omega
    have hR := (rs_is hpl).pos
    have g := few_greedy hpl
    have e := fewL_get tx (k := k + 1) hk 0
    rw [show tx.length - (k + 1) + 0 = p by rw [hp, Nat.add_sub_cancel_left]; rfl] at e
    show (1 + (needL (rsOf tx) tx.length k).getD ((rsOf tx).getD (tx.length - 1 - k) 0 - 1) 0) :: needL (rsOf tx) tx.length k = _
    rw [e0, ih, fewL_get tx (Nat.le_of_succ_le hk), show tx.length - k + ((rsOf tx).getD p 0 - 1) = p + (rsOf tx).getD p 0 by first | with_reducible exact t20 ‹_› ‹_› | lia | omega, ← g, ← e, fewL_succ]
    rfl
/- what the code reads -/
theorem copyN_take (base : List Nat) (p : Nat) : ∀ j, (copyN base p j).take base.length = base
  | 0 => by rewrite [copyN]; exact List.take_length
  | j + 1 => by
    rewrite [copyN]
    rw [List.take_append_of_le_length (by rw [copyN_len]; first | with_reducible exact Nat.le_add_right .. | lia | omega)]; exact copyN_take base p j
theorem copyN_seg {tx : List Nat} {q p : Nat} (hqp : q < p) : ∀ j, IsCopy tx q p j → copyN (tx.take p) q j = tx.take (p + j)
  | 0, _ => rfl
  | j + 1, h => by
    have ih := copyN_seg hqp j (h.down (by first | with_reducible exact Nat.le_add_right .. | lia | omega))
    obtain ⟨h1, h2⟩ := (copy_next hqp (h.down (Nat.le_succ j))).mp h
    rewrite [copyN]
    rw [ih, show p + (j + 1) = p + j + 1 by first | exact rfl | lia | omega, List.take_add_one, getD_some h1, ← h2]
    congr 1
    rw [List.getD_eq_getElem?_getD, List.getElem?_take, if_pos (by first | decide | assumption | exact a1 ‹_› | exact a2 ‹_› | exact a3 ‹_› (by decide) | exact dl ‹_› | exact ee ‹_› ‹_› | lia | omega), ← List.getD_eq_getElem?_getD]; rfl
theorem run_seg {tx : List Nat} {p z : Nat} (h : IsRun tx p z) : tx.take p ++ List.replicate z (tx.getD p 0) = tx.take (p + z) := by
  rw [← h, List.take_add]
theorem readTo_app (ss sizes : List Nat) (x : Nat) : ∀ k, k ≤ ss.length → readTo (ss ++ [x]) sizes k = readTo ss sizes k
  | 0, _ => rfl
  | k + 1, h => by
    show readStep sizes (readTo (ss ++ [x]) sizes k) k ((ss ++ [x]).getD k 0) = readStep sizes (readTo ss sizes k) k (ss.getD k 0)
    rw [readTo_app ss sizes x k (by first | decide | assumption | exact a1 ‹_› | exact a2 ‹_› | exact a3 ‹_› (by decide) | exact dl ‹_› | exact ee ‹_› ‹_› | lia | omega), List.getD_eq_getElem?_getD, List.getElem?_append_left (by first | decide | assumption | exact a1 ‹_› | exact a2 ‹_› | exact a3 ‹_› (by decide) | exact dl ‹_› | exact ee ‹_› ‹_› | lia | omega), ← List.getD_eq_getElem?_getD]
structure Says (tx ss zs : List Nat) (p : Nat) : Prop where
  len : ss.length = zs.length
  few : ss.length + Few tx p = Few tx 0
  z1 : ∀ z ∈ zs, 1 ≤ z ∧ z ≤ tx.length
  rd : ∀ sizes : List Nat, (∀ k, k < zs.length → sizes.getD k 0 = zs.getD k 0) → readTo ss sizes ss.length = tx.take p ∧ ∀ k, k < ss.length → 0 < ss.getD k 0 ∧ (256 ≤ ss.getD k 0 → ss.getD k 0 - 256 < (readTo ss sizes k).length)
theorem says_step {tx : List Nat} (ha : ∀ c ∈ tx, 0 < c ∧ c < 256) {ss zs : List Nat} {p : Nat} (hp : p < tx.length) (h : Says tx ss zs p) : Says tx (ss ++ [symAt tx (rsOf tx) p]) (zs ++ [(rsOf tx).getD p 0]) (p + (rsOf tx).getD p 0) := by
  have R := rs_is hp
  have Rl := R.le hp
  have g := few_greedy hp
  refine ⟨by simp [h.len], by have := h.few; rw [List.length_append, List.length_singleton]; first | lia | omega, fun z hz => ?_, fun sizes hs => ?_⟩
  · rcases List.mem_append.mp hz with hz | hz
    · exact h.z1 z hz
    · rw [List.mem_singleton.mp hz]
      have := R.pos
      first | with_reducible exact t75 ‹_› ‹_› | lia | omega
  · have h1 : ∀ k, k < zs.length → sizes.getD k 0 = zs.getD k 0 := fun k hk => by
      rw [hs k (by rw [List.length_append]; first | exact Nat.lt_succ_of_lt ‹_› | lia | omega), List.getD_eq_getElem?_getD, List.getElem?_append_left hk, ← List.getD_eq_getElem?_getD]
    have h2 : sizes.getD ss.length 0 = (rsOf tx).getD p 0 := by
      rw [hs _ (by rw [List.length_append, h.len]; simp), List.getD_eq_getElem?_getD, List.getElem?_append_right (by rw [h.len]; exact Nat.le_refl _), h.len, Nat.sub_self]; rfl
    obtain ⟨r1, r2⟩ := h.rd sizes h1
    have hlast : (ss ++ [symAt tx (rsOf tx) p]).getD ss.length 0 = symAt tx (rsOf tx) p := by
      rw [List.getD_eq_getElem?_getD, List.getElem?_append_right (Nat.le_refl _), Nat.sub_self]; rfl
    have hlen : (ss ++ [symAt tx (rsOf tx) p]).length = ss.length + 1 := by simp
    have sym : (symAt tx (rsOf tx) p < 256 ∧ symAt tx (rsOf tx) p = tx.getD p 0 ∧ IsRun tx p ((rsOf tx).getD p 0)) ∨ ∃ q, q < p ∧ IsCopy tx q p ((rsOf tx).getD p 0) ∧ symAt tx (rsOf tx) p = 256 + q := by
      by_cases hr : pieceAt tx (rsOf tx) p = List.replicate ((rsOf tx).getD p 0) (tx.getD p 0)
      · have e : symAt tx (rsOf tx) p = tx.getD p 0 := by unfold symAt; rw [if_pos hr]
        refine .inl ⟨by rw [e]; exact (ha _ (getD_mem hp)).2, e, ?_⟩
        unfold pieceAt at hr
        rw [show (tx.take (p + (rsOf tx).getD p 0)).drop p = (tx.drop p).take ((rsOf tx).getD p 0) from keyOf_eq ..] at hr
        exact hr
      · exact .inr (code_ok (fun c hc => (ha c hc).2) hp hr).2
    refine ⟨?_, fun k hk => ?_⟩
    · rw [hlen]
      show readStep sizes (readTo (ss ++ [symAt tx (rsOf tx) p]) sizes ss.length) ss.length ((ss ++ [symAt tx (rsOf tx) p]).getD ss.length 0) = _
      rw [readTo_app _ _ _ _ (Nat.le_refl _), hlast, r1]
      unfold readStep
      rw [h2]
      rcases sym with ⟨a, b, c⟩ | ⟨q, a, b, c⟩
      · rw [if_pos a, b]; exact run_seg c
      · rw [c, if_neg (by first | decide | assumption | exact a1 ‹_› | exact a2 ‹_› | exact a3 ‹_› (by decide) | exact dl ‹_› | exact ee ‹_› ‹_› | lia | omega), Nat.add_sub_cancel_left]; exact copyN_seg a _ b
    · rw [hlen] at hk
      by_cases hks : k < ss.length
      · have e : (ss ++ [symAt tx (rsOf tx) p]).getD k 0 = ss.getD k 0 := by
          rw [List.getD_eq_getElem?_getD, List.getElem?_append_left hks, ← List.getD_eq_getElem?_getD]
        rw [e, readTo_app _ _ _ _ (by first | decide | assumption | exact a1 ‹_› | exact a2 ‹_› | exact a3 ‹_› (by decide) | exact dl ‹_› | exact ee ‹_› ‹_› | lia | omega)]
        exact r2 k hks
      · have : k = ss.length := by first | decide | assumption | exact a1 ‹_› | exact a2 ‹_› | exact a3 ‹_› (by decide) | exact dl ‹_› | exact ee ‹_› ‹_› | lia | omega
        subst this
        rw [hlast, readTo_app _ _ _ _ (Nat.le_refl _), r1, List.length_take]
        rcases sym with ⟨a, b, c⟩ | ⟨q, a, b, c⟩
        · exact ⟨by rw [b]; exact (ha _ (getD_mem hp)).1, fun h => by first | decide | assumption | exact a1 ‹_› | exact a2 ‹_› | exact a3 ‹_› (by decide) | exact dl ‹_› | exact ee ‹_› ‹_› | lia | omega⟩
        · first | with_reducible exact t12 ‹_› ‹_› ‹_› | lia | omega
theorem says_walk {tx : List Nat} (ha : ∀ c ∈ tx, 0 < c ∧ c < 256) : ∀ f p ss zs, tx.length ≤ p + f → p ≤ tx.length → Says tx ss zs p → Says tx (codeW tx (rsOf tx) f p ss zs).1 (codeW tx (rsOf tx) f p ss zs).2 tx.length
  | 0, p, ss, zs, h1, h2, h => by
    have : p = tx.length := by first | decide | assumption | exact a1 ‹_› | exact a2 ‹_› | exact a3 ‹_› (by decide) | exact dl ‹_› | exact ee ‹_› ‹_› | lia | omega
    subst this; exact h
  | f + 1, p, ss, zs, h1, h2, h => by
    rewrite [codeW]
    split
    · rename_i hp
      have R := rs_is hp
      have := R.pos
      exact says_walk ha f _ _ _ (by first | with_reducible exact t82 ‹_› ‹_› | lia | omega) (R.le hp) (says_step ha hp h)
    · have : p = tx.length := by first | decide | assumption | exact a1 ‹_› | exact a2 ‹_› | exact a3 ‹_› (by decide) | exact dl ‹_› | exact ee ‹_› ‹_› | lia | omega
      subst this; exact h
theorem says_all {tx : List Nat} (ha : ∀ c ∈ tx, 0 < c ∧ c < 256) : Says tx (codeW tx (rsOf tx) tx.length 0 [] []).1 (codeW tx (rsOf tx) tx.length 0 [] []).2 tx.length :=
  says_walk ha _ _ _ _ (by first | with_reducible exact Nat.le_add_left .. | lia | omega) (Nat.zero_le _) ⟨rfl, by simp, (fun z hz => nomatch hz), fun sizes _ => ⟨rfl, fun k hk => by simp at hk⟩⟩
theorem getD_app1 {l r : List Nat} {k : Nat} (h : k < l.length) : (l ++ r).getD k 0 = l.getD k 0 := by
  rw [List.getD_eq_getElem?_getD, List.getElem?_append_left h, ← List.getD_eq_getElem?_getD]
theorem getD_app2 {l r : List Nat} {k : Nat} (h : l.length ≤ k) : (l ++ r).getD k 0 = r.getD (k - l.length) 0 := by
  rw [List.getD_eq_getElem?_getD, List.getElem?_append_right h, ← List.getD_eq_getElem?_getD]
theorem getD_drop (l : List Nat) (i j : Nat) : (l.drop i).getD j 0 = l.getD (i + j) 0 := by
  rw [List.getD_eq_getElem?_getD, List.getElem?_drop, ← List.getD_eq_getElem?_getD]
theorem copyN_per {base : List Nat} {p : Nat} (hp : p < base.length) : ∀ j, copyN base p j = base ++ (List.range j).map fun t => (base.drop p).getD (t % (base.length - p)) 0
  | 0 => by simp [copyN]
  | j + 1 => by
    have ih := copyN_per hp j
    rewrite [copyN]
    rw [List.range_succ, List.map_append, ← List.append_assoc, ← ih]
    congr 1
    show [_] = [_]
    congr 1
    rw [ih]
    show _ = (base.drop p).getD (j % (base.length - p)) 0
    rw [getD_drop]
    by_cases h : p + j < base.length
    · rw [getD_app1 h, Nat.mod_eq_of_lt (by first | with_reducible exact s30 ‹_› | lia | omega)]
    · rw [getD_app2 (by first | with_reducible exact Nat.le_of_not_lt ‹_› | lia | omega), List.getD_eq_getElem?_getD, List.getElem?_map, List.getElem?_range (by first | with_reducible exact s29 ‹_› ‹_› | lia | omega)]
      show (base.drop p).getD ((p + j - base.length) % (base.length - p)) 0 = _
      rw [getD_drop, Nat.mod_eq_sub_mod (show j ≥ base.length - p by first | with_reducible exact s27 ‹_› | lia | omega), show j - (base.length - p) = p + j - base.length by first | with_reducible exact s28 ‹_› ‹_› | lia | omega]
theorem drawn_step {cell : Int} {sizes : List Nat} {st : List Nat × List Nat} {k : Nat} (h : k = 0 ∨ 0 < st.2.length) :
    ∃ x, drawnStep cell sizes st k = (st.1 ++ [x], readStep sizes st.2 k x) ∧ (x ∈ [1, 65, 97, 255] ∨ (256 ≤ x ∧ x - 256 < st.2.length)) := by
  unfold drawnStep
  split
  · rename_i hc
    have hm : (pyFig cell (2 * k + 1)).toNat % 4 < 4 := Nat.mod_lt _ (by decide)
    have hx : [65, 97, 255, 1].getD ((pyFig cell (2 * k + 1)).toNat % 4) 0 ∈ [1, 65, 97, 255] ∧ [65, 97, 255, 1].getD ((pyFig cell (2 * k + 1)).toNat % 4) 0 < 256 := by
      generalize (pyFig cell (2 * k + 1)).toNat % 4 = j at hm
      match j, hm with
      | 0, _ => decide
      | 1, _ => decide
      | 2, _ => decide
      | 3, _ => decide
    refine ⟨_, ?_, .inl hx.1⟩
    unfold readStep
    rw [if_pos hx.2]
  · rename_i hc
    have h2 : 0 < st.2.length := by first | with_reducible exact t80 ‹_› ‹_› | lia | omega
    have hw := Nat.mod_lt (pyFig cell (2 * k + 1)).toNat h2
    refine ⟨_, ?_, .inr ⟨Nat.le_add_right .., by rw [Nat.add_sub_cancel_left]; exact hw⟩⟩
    unfold readStep
    rw [if_neg (by first | decide | assumption | exact a1 ‹_› | exact a2 ‹_› | exact a3 ‹_› (by decide) | exact dl ‹_› | exact ee ‹_› ‹_› | lia | omega), Nat.add_sub_cancel_left, copyN_per hw]
theorem readStep_len (sizes signs : List Nat) (k x : Nat) : (readStep sizes signs k x).length = signs.length + sizes.getD k 0 := by
  unfold readStep
  split
  · simp
  · rw [copyN_len]
theorem readStep_take (sizes signs : List Nat) (k x : Nat) : (readStep sizes signs k x).take signs.length = signs := by
  unfold readStep
  split
  · simp
  · exact copyN_take ..
noncomputable def Abc (tx : List Nat) : Prop := ∀ c ∈ tx, c ∈ [1, 65, 97, 255]
theorem copyN_mem {base : List Nat} {p : Nat} (hp : p < base.length) (h : Abc base) : ∀ j, Abc (copyN base p j)
  | 0 => h
  | j + 1 => by
    have ih := copyN_mem hp h j
    intro c hc
    rewrite [copyN] at hc
    rcases List.mem_append.mp hc with hc | hc
    · exact ih c hc
    · rw [List.mem_singleton.mp hc]
      exact ih _ (getD_mem (by rw [copyN_len]; first | lia | omega))
structure DrawnTo (cell : Int) (sizes : List Nat) (k : Nat) : Prop where
  len : (drawnTo cell sizes k).1.length = k
  n1 : k ≤ (drawnTo cell sizes k).2.length
  n3 : (drawnTo cell sizes k).2.length ≤ 3 * k
  rd : readTo (drawnTo cell sizes k).1 sizes k = (drawnTo cell sizes k).2
  abc : Abc (drawnTo cell sizes k).2
  ok : ∀ i, i < k → 0 < (drawnTo cell sizes k).1.getD i 0 ∧ (256 ≤ (drawnTo cell sizes k).1.getD i 0 → (drawnTo cell sizes k).1.getD i 0 - 256 < (readTo (drawnTo cell sizes k).1 sizes i).length)
theorem drawn_is {cell : Int} {sizes : List Nat} (h5 : 5 ≤ sizes.length) (h3 : ∀ z ∈ sizes, 1 ≤ z ∧ z ≤ 3) : ∀ k, k ≤ 5 → DrawnTo cell sizes k
  | 0, _ => ⟨rfl, Nat.le_refl _, Nat.le_refl _, rfl, (fun c h => nomatch h), fun i h => by first | decide | assumption | exact a1 ‹_› | exact a2 ‹_› | exact a3 ‹_› (by decide) | exact dl ‹_› | exact ee ‹_› ‹_› | lia | omega⟩
  | k + 1, hk => by
    have ih := drawn_is (cell := cell) h5 h3 k (by first | decide | assumption | exact a1 ‹_› | exact a2 ‹_› | exact a3 ‹_› (by decide) | exact dl ‹_› | exact ee ‹_› ‹_› | lia | omega)
    obtain ⟨j1, j2, j3⟩ := drawn_inv (cell := cell) h5 h3 (k + 1) hk
    obtain ⟨x, e, hx⟩ := drawn_step (cell := cell) (sizes := sizes) (st := drawnTo cell sizes k) (k := k) (by have := ih.n1; first | with_reducible exact t60 ‹_› | lia | omega)
    have e' : drawnTo cell sizes (k + 1) = ((drawnTo cell sizes k).1 ++ [x], readStep sizes (drawnTo cell sizes k).2 k x) := e
    have hlast : ((drawnTo cell sizes k).1 ++ [x]).getD k 0 = x := by rw [getD_app2 (by rw [ih.len]; exact Nat.le_refl _), ih.len, Nat.sub_self]; rfl
    refine ⟨j1, j2, j3, ?_, ?_, fun i hi => ?_⟩
    · rw [e']
      show readStep sizes (readTo ((drawnTo cell sizes k).1 ++ [x]) sizes k) k (((drawnTo cell sizes k).1 ++ [x]).getD k 0) = _
      rw [readTo_app _ _ _ _ (by rw [ih.len]; exact Nat.le_refl _), ih.rd, hlast]
    · rw [e']
      show Abc (readStep sizes (drawnTo cell sizes k).2 k x)
      unfold readStep
      rcases hx with hx | ⟨h1, h2⟩
      · have : x < 256 := by revert hx; simp; first | with_reducible exact t36 ‹_› |>.2 | lia | omega
        rw [if_pos this]
        intro c hc
        rcases List.mem_append.mp hc with hc | hc
        · exact ih.abc c hc
        · rw [(List.mem_replicate.mp hc).2]; exact hx
      · rw [if_neg (by first | decide | assumption | exact a1 ‹_› | exact a2 ‹_› | exact a3 ‹_› (by decide) | exact dl ‹_› | exact ee ‹_› ‹_› | lia | omega)]
        exact copyN_mem h2 ih.abc _
    · rw [e']
      show 0 < ((drawnTo cell sizes k).1 ++ [x]).getD i 0 ∧ (256 ≤ ((drawnTo cell sizes k).1 ++ [x]).getD i 0 → ((drawnTo cell sizes k).1 ++ [x]).getD i 0 - 256 < (readTo ((drawnTo cell sizes k).1 ++ [x]) sizes i).length)
      rw [readTo_app _ _ _ _ (by rw [ih.len]; first | with_reducible exact Nat.le_of_lt_succ ‹_› | lia | omega)]
      by_cases h : i < k
      · rw [getD_app1 (by rw [ih.len]; exact h)]; exact ih.ok i h
      · have : i = k := by first | decide | assumption | exact a1 ‹_› | exact a2 ‹_› | exact a3 ‹_› (by decide) | exact dl ‹_› | exact ee ‹_› ‹_› | lia | omega
        subst this
        rw [hlast, ih.rd]
        rcases hx with hx | ⟨h1, h2⟩
        · have : 0 < x ∧ x < 256 := by revert hx; simp; first | with_reducible exact t36 ‹_› | lia | omega
          exact ⟨this.1, fun h => by first | decide | assumption | exact a1 ‹_› | exact a2 ‹_› | exact a3 ‹_› (by decide) | exact dl ‹_› | exact ee ‹_› ‹_› | lia | omega⟩
        · exact ⟨by first | decide | assumption | exact a1 ‹_› | exact a2 ‹_› | exact a3 ‹_› (by decide) | exact dl ‹_› | exact ee ‹_› ‹_› | lia | omega, fun _ => h2⟩
theorem drawn_pre {cell : Int} {sizes : List Nat} (h5 : 5 ≤ sizes.length) (h3 : ∀ z ∈ sizes, 1 ≤ z ∧ z ≤ 3) : ∀ j k, k + j ≤ 5 → (drawnTo cell sizes (k + j)).2.take (drawnTo cell sizes k).2.length = (drawnTo cell sizes k).2
  | 0, k, _ => List.take_length
  | j + 1, k, h => by
    have ih := drawn_pre (cell := cell) h5 h3 j k (by first | decide | assumption | exact a1 ‹_› | exact a2 ‹_› | exact a3 ‹_› (by decide) | exact dl ‹_› | exact ee ‹_› ‹_› | lia | omega)
    obtain ⟨x, e, _⟩ := drawn_step (cell := cell) (sizes := sizes) (st := drawnTo cell sizes (k + j)) (k := k + j) (by have := (drawn_is (cell := cell) h5 h3 (k + j) (by first | decide | assumption | exact a1 ‹_› | exact a2 ‹_› | exact a3 ‹_› (by decide) | exact dl ‹_› | exact ee ‹_› ‹_› | lia | omega)).n1; first | with_reducible exact t60 ‹_› | lia | omega)
    have e' : (drawnTo cell sizes (k + (j + 1))).2 = readStep sizes (drawnTo cell sizes (k + j)).2 (k + j) x := congrArg Prod.snd e
    have t := readStep_take sizes (drawnTo cell sizes (k + j)).2 (k + j) x
    have hl : (drawnTo cell sizes k).2.length ≤ (drawnTo cell sizes (k + j)).2.length := by
      have := congrArg List.length ih
      simp at this
      first | with_reducible exact t55 ‹_› | lia | omega
    rw [e']
    rw [← ih]
    conv => rhs; rw [← t]
    rw [List.take_take, Nat.min_eq_left hl, ih]
theorem run_conv {tx : List Nat} {p z x : Nat} (hz : 1 ≤ z) (h : tx.take p ++ List.replicate z x = tx.take (p + z)) : IsRun tx p z := by
  rw [List.take_add] at h
  have e := (List.append_cancel_left h).symm
  have : tx.getD p 0 = x := by
    have := congrArg (fun l => l.getD 0 0) e
    simp only [List.getD_eq_getElem?_getD, List.getElem?_take, List.getElem?_drop, List.getElem?_replicate] at this
    rw [if_pos (by first | decide | assumption | exact a1 ‹_› | exact a2 ‹_› | exact a3 ‹_› (by decide) | exact dl ‹_› | exact ee ‹_› ‹_› | lia | omega), if_pos (by first | decide | assumption | exact a1 ‹_› | exact a2 ‹_› | exact a3 ‹_› (by decide) | exact dl ‹_› | exact ee ‹_› ‹_› | lia | omega)] at this
    simpa [List.getD_eq_getElem?_getD] using this
  unfold IsRun
  rw [this, e]
theorem copy_conv {tx : List Nat} {q p : Nat} (hqp : q < p) : ∀ j, p + j ≤ tx.length → copyN (tx.take p) q j = tx.take (p + j) → IsCopy tx q p j
  | 0, h, _ => ⟨h, by simp⟩
  | j + 1, h, e => by
    have hlt : p + j < tx.length := by first | decide | assumption | exact a1 ‹_› | exact a2 ‹_› | exact a3 ‹_› (by decide) | exact dl ‹_› | exact ee ‹_› ‹_› | lia | omega
    rewrite [copyN] at e
    rw [show p + (j + 1) = p + j + 1 by first | exact rfl | lia | omega, List.take_add_one, getD_some hlt] at e
    obtain ⟨e1, e2⟩ := List.append_inj e (by rw [copyN_len, List.length_take, List.length_take]; first | with_reducible exact t48 ‹_› | lia | omega)
    have ih := copy_conv hqp j (by first | decide | assumption | exact a1 ‹_› | exact a2 ‹_› | exact a3 ‹_› (by decide) | exact dl ‹_› | exact ee ‹_› ‹_› | lia | omega) e1
    refine (copy_next hqp ih).mpr ⟨hlt, ?_⟩
    rw [e1] at e2
    have : (tx.take (p + j)).getD (q + j) 0 = tx.getD (p + j) 0 := by simpa using e2
    rw [← this]
    conv => rhs; rw [List.getD_eq_getElem?_getD, List.getElem?_take, if_pos (by first | decide | assumption | exact a1 ‹_› | exact a2 ‹_› | exact a3 ‹_› (by decide) | exact dl ‹_› | exact ee ‹_› ‹_› | lia | omega), ← List.getD_eq_getElem?_getD]
theorem drawn_few {cell : Int} {sizes : List Nat} (h5 : 5 ≤ sizes.length) (h3 : ∀ z ∈ sizes, 1 ≤ z ∧ z ≤ 3) : ∀ j k, k + j = 5 → Few (drawnTo cell sizes 5).2 (drawnTo cell sizes k).2.length ≤ j
  | 0, k, h => by
    have : k = 5 := by first | decide | assumption | exact a1 ‹_› | exact a2 ‹_› | exact a3 ‹_› (by decide) | exact dl ‹_› | exact ee ‹_› ‹_› | lia | omega
    subst this
    rw [few_end]; exact Nat.le_refl _
  | j + 1, k, h => by
    have ih := drawn_few (cell := cell) h5 h3 j (k + 1) (by first | decide | assumption | exact a1 ‹_› | exact a2 ‹_› | exact a3 ‹_› (by decide) | exact dl ‹_› | exact ee ‹_› ‹_› | lia | omega)
    have D := drawn_is (cell := cell) h5 h3 k (by first | decide | assumption | exact a1 ‹_› | exact a2 ‹_› | exact a3 ‹_› (by decide) | exact dl ‹_› | exact ee ‹_› ‹_› | lia | omega)
    have t0 := drawn_pre (cell := cell) h5 h3 (j + 1) k (by first | with_reducible exact Nat.le_of_eq ‹_› | lia | omega)
    have t1 := drawn_pre (cell := cell) h5 h3 j (k + 1) (by first | decide | assumption | exact a1 ‹_› | exact a2 ‹_› | exact a3 ‹_› (by decide) | exact dl ‹_› | exact ee ‹_› ‹_› | lia | omega)
    rw [show k + (j + 1) = 5 by first | decide | assumption | exact a1 ‹_› | exact a2 ‹_› | exact a3 ‹_› (by decide) | exact dl ‹_› | exact ee ‹_› ‹_› | lia | omega] at t0
    rw [show k + 1 + j = 5 by first | decide | assumption | exact a1 ‹_› | exact a2 ‹_› | exact a3 ‹_› (by decide) | exact dl ‹_› | exact ee ‹_› ‹_› | lia | omega] at t1
    obtain ⟨x, e, hx⟩ := drawn_step (cell := cell) (sizes := sizes) (st := drawnTo cell sizes k) (k := k) (by have := D.n1; first | with_reducible exact t60 ‹_› | lia | omega)
    have e' : (drawnTo cell sizes (k + 1)).2 = readStep sizes (drawnTo cell sizes k).2 k x := congrArg Prod.snd e
    have el : (drawnTo cell sizes (k + 1)).2.length = (drawnTo cell sizes k).2.length + sizes.getD k 0 := by rw [e', readStep_len]
    have hz := h3 _ (getD_mem (l := sizes) (i := k) (by first | decide | assumption | exact a1 ‹_› | exact a2 ‹_› | exact a3 ‹_› (by decide) | exact dl ‹_› | exact ee ‹_› ‹_› | lia | omega))
    have hn : (drawnTo cell sizes (k + 1)).2.length ≤ (drawnTo cell sizes 5).2.length := by
      have := congrArg List.length t1
      simp at this
      first | with_reducible exact t55 ‹_› | lia | omega
    generalize (drawnTo cell sizes 5).2 = tx at *
    generalize hp : (drawnTo cell sizes k).2.length = p at *
    generalize hzz : sizes.getD k 0 = z at *
    rw [el] at ih hn t1
    rw [e', ← t0] at t1
    have : okP tx p (p + z) = true := by
      rw [okP_iff (by first | decide | assumption | exact a1 ‹_› | exact a2 ‹_› | exact a3 ‹_› (by decide) | exact dl ‹_› | exact ee ‹_› ‹_› | lia | omega) hn, Nat.add_sub_cancel_left]
      unfold readStep at t1
      rcases hx with hx | ⟨h1, h2⟩
      · have : x < 256 := by revert hx; simp; first | with_reducible exact t36 ‹_› |>.2 | lia | omega
        rw [if_pos this] at t1
        exact .inl (run_conv (x := x) hz.1 (by rw [t1, hzz]))
      · rw [if_neg (by first | decide | assumption | exact a1 ‹_› | exact a2 ‹_› | exact a3 ‹_› (by decide) | exact dl ‹_› | exact ee ‹_› ‹_› | lia | omega)] at t1
        refine .inr ⟨x - 256, by first | decide | assumption | exact a1 ‹_› | exact a2 ‹_› | exact a3 ‹_› (by decide) | exact dl ‹_› | exact ee ‹_› ‹_› | lia | omega, copy_conv (by first | decide | assumption | exact a1 ‹_› | exact a2 ‹_› | exact a3 ‹_› (by decide) | exact dl ‹_› | exact ee ‹_› ‹_› | lia | omega) _ hn ?_⟩
        rw [t1, hzz]
    have := few_le (by first | decide | assumption | exact a1 ‹_› | exact a2 ‹_› | exact a3 ‹_› (by decide) | exact dl ‹_› | exact ee ‹_› ‹_› | lia | omega) hn this
    first | lia | omega
/- what the law draws -/
noncomputable def figN (cell : Int) (p : Nat) : Nat := (pyFig cell p).toNat
theorem figN_is (cell : Int) (p : Nat) : pyFig cell p = (figN cell p : Nat) ∧ figN cell p < 10 := by
  have := pyFig_nn cell p
  unfold figN
  first | lia | omega
noncomputable def drawnZ (cell : Int) : List Nat := (List.range 5).map fun k => 1 + figN cell (2 + k) % 3
noncomputable def wayOf (cell : Int) : Nat := figN cell 1 % 5
noncomputable def shownOf (cell : Int) : List Nat := (drawnZ cell).take (1 + figN cell 0 % 5)
noncomputable def tailOf (cell : Int) : List Nat := (([[], [0], [0, 9], [127], [127, 4]] : List (List Nat))[wayOf cell]?).getD []
noncomputable abbrev lastRep (l : List Nat) : List Nat := (l ++ List.replicate 16 (l.getD (l.length - 1) 0)).take 16
noncomputable def twoB (cell : Int) : Bool := wayOf cell == 1 || wayOf cell == 2
noncomputable def rulerOf (cell : Int) : List Nat := if twoB cell then shownOf cell ++ tailOf cell else drawnZ cell ++ tailOf cell
noncomputable def sizesOf (cell : Int) : List Nat := if twoB cell then lastRep (shownOf cell) else drawnZ cell
theorem way_lt (cell : Int) : wayOf cell < 5 := Nat.mod_lt _ (by decide)
theorem drawnZ_len (cell : Int) : (drawnZ cell).length = 5 := by simp [drawnZ]
theorem drawnZ_is (cell : Int) : ∀ z ∈ drawnZ cell, 1 ≤ z ∧ z ≤ 3 := fun z hz => by
  obtain ⟨k, _, rfl⟩ := List.mem_map.mp hz
  have := Nat.mod_lt (figN cell (2 + k)) (show 0 < 3 by decide)
  show 1 ≤ 1 + figN cell (2 + k) % 3 ∧ 1 + figN cell (2 + k) % 3 ≤ 3
  first | with_reducible exact s78 | lia | omega
theorem shown_len (cell : Int) : 1 ≤ (shownOf cell).length ∧ (shownOf cell).length ≤ 5 := by
  unfold shownOf
  rw [List.length_take, drawnZ_len]
  first | with_reducible exact s72 | lia | omega
theorem shown_is (cell : Int) : ∀ z ∈ shownOf cell, 1 ≤ z ∧ z ≤ 3 := fun z hz => drawnZ_is cell z (List.mem_of_mem_take hz)
/- the ruler read -/
theorem gval_in {x : Nat} (r : List Nat) (last : Option Nat) (k : Nat) (h : x ≠ 0 ∧ x ≠ 127) : gval (x :: r) last k = match k with
    | 0 => some x
    | k + 1 => gval r (some x) k := by
  show (if x = 127 then none else if x = 0 then last else match k with
    | 0 => some x
    | k + 1 => gval r (some x) k) = _
  rw [if_neg h.2, if_neg h.1]
theorem gval_app (r : List Nat) : ∀ (l : List Nat) (last : Option Nat) (k : Nat), (∀ z ∈ l, z ≠ 0 ∧ z ≠ 127) → gval (l ++ r) last k = if k < l.length then l[k]? else gval r (match l.getLast? with | some x => some x | none => last) (k - l.length)
  | [], last, k, _ => by rw [if_neg (by simp)]; rfl
  | x :: l, last, k, h => by
    have hx := h x (.head _)
    have hl : ∀ z ∈ l, z ≠ 0 ∧ z ≠ 127 := fun z hz => h z (.tail _ hz)
    rw [List.cons_append, gval_in _ _ _ hx]
    cases k with
    | zero => rw [if_pos (by simp)]; rfl
    | succ k =>
      show gval (l ++ r) (some x) k = _
      rw [gval_app r l (some x) k hl]
      by_cases hk : k < l.length
      · rw [if_pos hk, if_pos (by simp; first | assumption | lia | omega)]; rfl
      · rw [if_neg hk, if_neg (by simp; first | with_reducible exact Nat.le_of_not_lt ‹_› | lia | omega)]
        rw [show (x :: l).length = l.length + 1 from rfl, show k + 1 - (l.length + 1) = k - l.length by first | decide | assumption | exact a1 ‹_› | exact a2 ‹_› | exact a3 ‹_› (by decide) | exact dl ‹_› | exact ee ‹_› ‹_› | lia | omega]
        congr 1
        cases l with
        | nil => rfl
        | cons y l' =>
          rw [List.getLast?_cons_cons]
          cases e : (y :: l').getLast? with
          | none => simp at e
          | some z => rfl
theorem szs_of {ruler L : List Nat} : ∀ m, (∀ k, k < m → gval ruler none k = L[k]?) → szs ruler m = L.take m
  | 0, _ => by simp [szs]
  | m + 1, h => by
    have ih := szs_of m fun k hk => h k (by first | with_reducible exact Nat.lt_succ_of_lt ‹_› | lia | omega)
    rewrite [szs]
    rw [h m (by first | decide | assumption | exact a1 ‹_› | exact a2 ‹_› | exact a3 ‹_› (by decide) | exact dl ‹_› | exact ee ‹_› ‹_› | lia | omega), ih, List.take_add_one]
    cases e : L[m]? with
    | none => simp
    | some x => rfl
theorem szs_plain {l r : List Nat} (hl : ∀ z ∈ l, z ≠ 0 ∧ z ≠ 127) (hr : r = [] ∨ ∃ q, r = 127 :: q) (hlen : l.length ≤ 16) : szs (l ++ r) 16 = l := by
  have := szs_of (ruler := l ++ r) (L := l) 16 fun k hk => by
    rw [gval_app r l none k hl]
    split
    · rfl
    · rename_i h
      rw [List.getElem?_eq_none (by first | with_reducible exact Nat.le_of_not_lt ‹_› | lia | omega)]
      rcases hr with rfl | ⟨q, rfl⟩
      · rfl
      · unfold gval; rw [if_pos rfl]
  rw [this, List.take_of_length_le hlen]
theorem szs_last {l q : List Nat} (hl : ∀ z ∈ l, z ≠ 0 ∧ z ≠ 127) (hne : l ≠ []) : szs (l ++ 0 :: q) 16 = lastRep l := by
  refine szs_of (ruler := l ++ 0 :: q) (L := l ++ List.replicate 16 (l.getD (l.length - 1) 0)) 16 fun k hk => ?_
  rw [gval_app (0 :: q) l none k hl]
  split
  · rename_i h
    rw [List.getElem?_append_left h]
  · rename_i h
    have hpos : 0 < l.length := List.length_pos_iff.mpr hne
    have e : l.getLast? = some (l.getD (l.length - 1) 0) := by
      rw [List.getLast?_eq_getElem?]; exact getD_some (by first | decide | assumption | exact a1 ‹_› | exact a2 ‹_› | exact a3 ‹_› (by decide) | exact dl ‹_› | exact ee ‹_› ‹_› | lia | omega)
    rw [e, List.getElem?_append_right (by first | with_reducible exact Nat.le_of_not_lt ‹_› | lia | omega), List.getElem?_replicate, if_pos (by first | with_reducible exact t38 ‹_› | lia | omega)]
    unfold gval
    rw [if_neg (by decide), if_pos rfl]
theorem sizes_len (cell : Int) : 5 ≤ (sizesOf cell).length ∧ (sizesOf cell).length ≤ 16 := by
  unfold sizesOf
  split
  · simp
  · rw [drawnZ_len]; first | with_reducible exact (by decide) | lia | omega
theorem sizes_is (cell : Int) : ∀ z ∈ sizesOf cell, 1 ≤ z ∧ z ≤ 3 := fun z hz => by
  unfold sizesOf at hz
  split at hz
  · rcases List.mem_append.mp (List.mem_of_mem_take hz) with h | h
    · exact shown_is cell z h
    · rw [(List.mem_replicate.mp h).2]
      exact shown_is cell _ (getD_mem (by have := shown_len cell; first | with_reducible exact t49 ‹_› | lia | omega))
  · exact drawnZ_is cell z hz
theorem tail_cases (cell : Int) : (twoB cell = true ∧ ∃ q, tailOf cell = 0 :: q ∧ q.length ≤ 1) ∨ (twoB cell = false ∧ (tailOf cell = [] ∨ ∃ q, tailOf cell = 127 :: q ∧ q.length ≤ 1)) := by
  have := way_lt cell
  unfold twoB tailOf
  generalize wayOf cell = w at *
  match w, this with
  | 0, _ => exact .inr ⟨rfl, .inl rfl⟩
  | 1, _ => exact .inl ⟨rfl, [], rfl, by decide⟩
  | 2, _ => exact .inl ⟨rfl, [9], rfl, by decide⟩
  | 3, _ => exact .inr ⟨rfl, .inr ⟨[], rfl, by decide⟩⟩
  | 4, _ => exact .inr ⟨rfl, .inr ⟨[4], rfl, by decide⟩⟩
theorem tail_len (cell : Int) : (tailOf cell).length ≤ 2 := by
  rcases tail_cases cell with ⟨_, q, e, h⟩ | ⟨_, e | ⟨q, e, h⟩⟩ <;> rw [e] <;> simp <;> first | assumption | lia | omega
theorem ruler_len (cell : Int) : (rulerOf cell).length ≤ 16 := by
  have := tail_len cell
  have := shown_len cell
  have := drawnZ_len cell
  unfold rulerOf
  split <;> rw [List.length_append] <;> first | lia | omega
theorem head_ne {l r : List Nat} (hl : ∀ z ∈ l, z ≠ 0 ∧ z ≠ 127) (hne : l ≠ []) : (l ++ r)[0]? ≠ some 0 := by
  cases l with
  | nil => exact absurd rfl hne
  | cons x l => intro h; simp at h; exact (hl x (.head _)).1 h
theorem ne_of_small {l : List Nat} {b : Nat} (hb : b < 127) (h : ∀ z ∈ l, 1 ≤ z ∧ z ≤ b) : ∀ z ∈ l, z ≠ 0 ∧ z ≠ 127 := fun z hz => by have := h z hz; first | with_reducible exact s21 ‹_› ‹_› | lia | omega
theorem ruler_head (cell : Int) : (rulerOf cell)[0]? ≠ some 0 := by
  unfold rulerOf
  split
  · exact head_ne (ne_of_small (by decide) (shown_is cell)) (List.length_pos_iff.mp (by have := shown_len cell; first | exact ‹_ ∧ _›.1 | lia | omega))
  · exact head_ne (ne_of_small (by decide) (drawnZ_is cell)) (List.length_pos_iff.mp (by have := drawnZ_len cell; first | with_reducible exact t84 ‹_› | lia | omega))
theorem ruler_says (cell : Int) : szs (rulerOf cell) 16 = sizesOf cell := by
  unfold rulerOf sizesOf
  rcases tail_cases cell with ⟨h, q, e, _⟩ | ⟨h, e⟩
  · rw [h, if_pos rfl, if_pos rfl, e]
    exact szs_last (ne_of_small (by decide) (shown_is cell)) (List.length_pos_iff.mp (by have := shown_len cell; first | exact ‹_ ∧ _›.1 | lia | omega))
  · rw [h, if_neg (by decide), if_neg (by decide)]
    refine szs_plain (ne_of_small (by decide) (drawnZ_is cell)) ?_ (by rw [drawnZ_len]; decide)
    rcases e with e | ⟨q, e, _⟩
    · exact .inl e
    · exact .inr ⟨q, e⟩
noncomputable abbrev symsOf (c0 c1 : Int) : List Nat := (drawnTo c1 (sizesOf c0) 5).1
noncomputable abbrev textOf (c0 c1 : Int) : List Nat := (drawnTo c1 (sizesOf c0) 5).2
theorem drawn_5 (c0 c1 : Int) : DrawnTo c1 (sizesOf c0) 5 := drawn_is (sizes_len c0).1 (sizes_is c0) 5 (Nat.le_refl _)
theorem drawn_rd (c0 c1 : Int) : Readable (symsOf c0 c1) (szs (rulerOf c0) 16) ∧ readTo (symsOf c0 c1) (szs (rulerOf c0) 16) (symsOf c0 c1).length = textOf c0 c1 := by
  have D := drawn_5 c0 c1
  have hs := sizes_len c0
  rw [ruler_says]
  refine ⟨⟨fun k hk => (D.ok k (by rw [D.len] at hk; exact hk)).1, by rw [D.len]; exact hs.1, fun z hz => by have := sizes_is c0 z hz; first | with_reducible exact a3 ‹_ ∧ _›.2 (by decide) | lia | omega, fun k hk h => (D.ok k (by rw [D.len] at hk; exact hk)).2 h, by rw [D.len]; decide⟩, ?_⟩
  rw [D.len]; exact D.rd
noncomputable abbrev codeOf (tx : List Nat) : List Nat := (codeW tx (rsOf tx) tx.length 0 [] []).1
noncomputable abbrev spanOf (tx : List Nat) : List Nat := (codeW tx (rsOf tx) tx.length 0 [] []).2
theorem abc_lt {tx : List Nat} (h : Abc tx) : ∀ c ∈ tx, 0 < c ∧ c < 256 := fun c hc => by
  have := h c hc
  revert this; simp; first | with_reducible exact t36 ‹_› | lia | omega
structure TextOk (tx : List Nat) : Prop where
  n1 : 5 ≤ tx.length
  n3 : tx.length ≤ 15
  abc : Abc tx
  few : Few tx 0 ≤ 5
theorem text_ok (c0 c1 : Int) : TextOk (textOf c0 c1) := by
  have D := drawn_5 c0 c1
  exact ⟨D.n1, D.n3, D.abc, drawn_few (sizes_len c0).1 (sizes_is c0) 5 0 rfl⟩
theorem code_len {tx : List Nat} (T : TextOk tx) : 1 ≤ (codeOf tx).length ∧ (codeOf tx).length ≤ 5 ∧ (spanOf tx).length = (codeOf tx).length := by
  have S := says_all (abc_lt T.abc)
  have e := S.few
  rw [few_end] at e
  obtain ⟨q, _, _, _, h⟩ := few_ex (tx := tx) (p := 0) (by have := T.n1; first | lia | omega)
  have := T.few
  exact ⟨by show 1 ≤ (codeW tx (rsOf tx) tx.length 0 [] []).1.length; first | lia | omega, by show (codeW tx (rsOf tx) tx.length 0 [] []).1.length ≤ 5; first | exact s10 ‹_› ‹_› | lia | omega, S.len.symm⟩
theorem span_is {tx : List Nat} (T : TextOk tx) : ∀ z ∈ spanOf tx, 1 ≤ z ∧ z ≤ 15 := fun z hz => by
  have := (says_all (abc_lt T.abc)).z1 z hz
  have := T.n3
  first | lia | omega
theorem code_pos {tx : List Nat} (T : TextOk tx) : ∀ z ∈ codeOf tx, 0 < z := fun z hz => by
  obtain ⟨k, hk, rfl⟩ := mem_getD hz
  exact (((says_all (abc_lt T.abc)).rd (spanOf tx) fun _ _ => rfl).2 k hk).1
theorem code_rd {tx : List Nat} (T : TextOk tx) {sizes : List Nat} (hs : ∀ k, k < (spanOf tx).length → sizes.getD k 0 = (spanOf tx).getD k 0) (hl : (spanOf tx).length ≤ sizes.length) (hz : ∀ z ∈ sizes, z ≤ 16) :
    Readable (codeOf tx) sizes ∧ readTo (codeOf tx) sizes (codeOf tx).length = tx := by
  obtain ⟨r1, r2⟩ := (says_all (abc_lt T.abc)).rd sizes hs
  obtain ⟨c1, c2, c3⟩ := code_len T
  refine ⟨⟨fun k hk => (r2 k hk).1, by first | decide | assumption | exact a1 ‹_› | exact a2 ‹_› | exact a3 ‹_› (by decide) | exact dl ‹_› | exact ee ‹_› ‹_› | lia | omega, hz, fun k hk h => (r2 k hk).2 h, by first | decide | assumption | exact a1 ‹_› | exact a2 ‹_› | exact a3 ‹_› (by decide) | exact dl ‹_› | exact ee ‹_› ‹_› | lia | omega⟩, ?_⟩
  rw [List.take_length] at r1
  exact r1
structure Popped (zs cur : List Nat) : Prop where
  ne : cur ≠ []
  is : ∃ m, zs = cur ++ List.replicate m (cur.getD (cur.length - 1) 0)
theorem Popped.refl {zs : List Nat} (h : zs ≠ []) : Popped zs zs := ⟨h, 0, by simp⟩
theorem Popped.step {zs cur : List Nat} {x : Nat} (h : Popped zs (cur ++ [x, x])) : Popped zs (cur ++ [x]) := by
  obtain ⟨m, e⟩ := h.is
  have a : (cur ++ [x, x]).getD ((cur ++ [x, x]).length - 1) 0 = x := by rw [getD_app2 (by simp)]; simp
  have b : (cur ++ [x]).getD ((cur ++ [x]).length - 1) 0 = x := by rw [getD_app2 (by simp)]; simp
  refine ⟨by simp, m + 1, ?_⟩
  rw [b, e, a, List.replicate_succ]
  simp
theorem popped_rd {tx : List Nat} (T : TextOk tx) {cell : Int} {cur : List Nat} (h : twoB cell = true ∧ Popped (spanOf tx) cur ∨ twoB cell = false ∧ cur = spanOf tx) :
    (cur ++ tailOf cell).length ≤ 16 ∧ (cur ++ tailOf cell)[0]? ≠ some 0 ∧ Readable (codeOf tx) (szs (cur ++ tailOf cell) 16) ∧ readTo (codeOf tx) (szs (cur ++ tailOf cell) 16) (codeOf tx).length = tx := by
  have ht := tail_len cell
  obtain ⟨c1, c2, c3⟩ := code_len T
  have zi := span_is T
  have main : cur ≠ [] ∧ ∃ m, spanOf tx = cur ++ List.replicate m (cur.getD (cur.length - 1) 0) := by
    rcases h with ⟨_, h⟩ | ⟨_, rfl⟩
    · exact ⟨h.ne, h.is⟩
    · exact ⟨List.length_pos_iff.mp (by first | decide | assumption | exact a1 ‹_› | exact a2 ‹_› | exact a3 ‹_› (by decide) | exact dl ‹_› | exact ee ‹_› ‹_› | lia | omega), 0, by simp⟩
  obtain ⟨hne, m, hm⟩ := main
  have hcl : cur.length ≤ 5 := by have := congrArg List.length hm; simp at this; first | lia | omega
  have hci : ∀ z ∈ cur, 1 ≤ z ∧ z ≤ 15 := fun z hz => zi z (by rw [hm]; exact List.mem_append_left _ hz)
  refine ⟨by rw [List.length_append]; first | lia | omega, head_ne (ne_of_small (by decide) hci) hne, ?_⟩
  rcases tail_cases cell with ⟨h1, q, e, _⟩ | ⟨h1, e⟩
  · rw [e, szs_last (ne_of_small (by decide) hci) hne]
    have hml := congrArg List.length hm
    simp at hml
    refine code_rd T (fun k hk => ?_) (by simp; first | with_reducible exact Nat.le_trans (s10 ‹_ = _› ‹_›) (by decide) | lia | omega) (fun z hz => ?_)
    · rw [hm]
      have hkl : k < cur.length + m := by first | with_reducible exact Nat.lt_of_lt_of_eq ‹_› ‹_› | lia | omega
      rw [List.getD_eq_getElem?_getD, List.getElem?_take, if_pos (by first | decide | assumption | exact a1 ‹_› | exact a2 ‹_› | exact a3 ‹_› (by decide) | exact dl ‹_› | exact ee ‹_› ‹_› | lia | omega), ← List.getD_eq_getElem?_getD]
      by_cases hk2 : k < cur.length
      · rw [getD_app1 hk2, getD_app1 hk2]
      · have rep : ∀ (j n x : Nat), j < n → (List.replicate n x).getD j 0 = x := fun j n x h => by
          rw [List.getD_eq_getElem?_getD, List.getElem?_replicate, if_pos h]; rfl
        rw [getD_app2 (by first | with_reducible exact Nat.le_of_not_lt ‹_› | lia | omega), getD_app2 (by first | with_reducible exact Nat.le_of_not_lt ‹_› | lia | omega), rep _ _ _ (by first | with_reducible exact t28 ‹_› ‹_› ‹_› | lia | omega), rep _ _ _ (by first | with_reducible exact s74 ‹_› ‹_› ‹_› | lia | omega)]
    · rcases List.mem_append.mp (List.mem_of_mem_take hz) with h | h
      · have := hci z h; first | with_reducible exact a3 ‹_ ∧ _›.2 (by decide) | lia | omega
      · rw [(List.mem_replicate.mp h).2]
        have := hci _ (getD_mem (l := cur) (i := cur.length - 1) (by have := List.length_pos_iff.mpr hne; first | with_reducible exact s2 ‹_› | lia | omega))
        first | with_reducible exact a3 ‹_ ∧ _›.2 (by decide) | lia | omega
  · have hc : cur = spanOf tx := by
      rcases h with ⟨h2, _⟩ | ⟨_, h2⟩
      · rw [h1] at h2; cases h2
      · exact h2
    subst hc
    rw [szs_plain (ne_of_small (by decide) hci) (by
      rcases e with e | ⟨q, e, _⟩
      · exact .inl e
      · exact .inr ⟨q, e⟩) (by first | decide | assumption | exact a1 ‹_› | exact a2 ‹_› | exact a3 ‹_› (by decide) | exact dl ‹_› | exact ee ‹_› ‹_› | lia | omega)]
    exact code_rd T (fun k _ => rfl) (Nat.le_refl _) (fun z hz => by have := zi z hz; first | with_reducible exact a3 ‹_ ∧ _›.2 (by decide) | lia | omega)
section
variable {w : World} {mg mb : Str → Option Value} {B : Heap} {A : Around} {s₀ s s' : Shared} {R : Result → Shared → Prop} {L a : Addr} {l : List (Str × Value)}
theorem Ok.inCallC3 (O : Ok B s.heap) {m cm : Str → Option Value} {x1 x2 x3 : Str} {v1 v2 v3 : Option Value} {s₁ : Shared} {cs : List (Str × Addr)} (X : InCallC s s.heap.objs.size m cs cm s₁)
    (h1 : cs.lookup x1 = some (s.heap.objs.size + 1)) (h2 : cs.lookup x2 = some (s.heap.objs.size + 1 + 1)) (h3 : cs.lookup x3 = some (s.heap.objs.size + 1 + 1 + 1)) (k1 : cm x1 = v1) (k2 : cm x2 = v2) (k3 : cm x3 = v3) (hm : ∀ y, m y = l.lookup y) :
    ∃ o1 o2 o3, o1.data = .cell v1 ∧ o2.data = .cell v2 ∧ o3.data = .cell v3 ∧ Act B s s.heap.objs.size l [(s.heap.objs.size + 1 + 1 + 1, o3), (s.heap.objs.size + 1 + 1, o2), (s.heap.objs.size + 1, o1)] T0 s₁ := by
  have D := O.inCall X.toInCall hm
  obtain ⟨o1, e1, d1⟩ := X.cell _ _ h1
  obtain ⟨o2, e2, d2⟩ := X.cell _ _ h2
  obtain ⟨o3, e3, d3⟩ := X.cell _ _ h3
  subst k1 k2 k3
  have H1 := D.hp.more (a := s.heap.objs.size + 1) ⟨Nat.le_succ _, Nat.succ_ne_self _⟩ (fun _ hp => nomatch hp) e1
  have H2 := H1.more (a := s.heap.objs.size + 1 + 1) ⟨Nat.le_trans (Nat.le_succ _) (Nat.le_succ _), Nat.ne_of_gt (Nat.lt_succ_of_lt (Nat.lt_succ_self _))⟩ (fun p hp => by rw [List.mem_singleton.mp hp]; exact Nat.lt_succ_self _) e2
  have H3 := H2.more (a := s.heap.objs.size + 1 + 1 + 1) ⟨Nat.le_trans (Nat.le_succ _) (Nat.le_trans (Nat.le_succ _) (Nat.le_succ _)), Nat.ne_of_gt (Nat.lt_succ_of_lt (Nat.lt_succ_of_lt (Nat.lt_succ_self _)))⟩ (fun p hp => by
    rcases List.mem_cons.mp hp with rfl | hp
    · exact Nat.lt_succ_self _
    · rw [List.mem_singleton.mp hp]; exact Nat.lt_succ_of_lt (Nat.lt_succ_self _)) e3
  exact ⟨o1, o2, o3, d1, d2, d3, H3, D.like⟩
theorem Act.key {N : List (Addr × Obj)} {f : Addr} {tx : List Nat} {sz : Nat} (D : Act B s₀ L l N (KeyF f tx sz) s) : IsKey s.heap f tx sz := D.fact.2
noncomputable abbrev cdN (s : Shared) (x : Addr) (y : Addr) (us : List Value) (vs : List Value) (n1 : Nat) (n2 : Nat) (o1 : Obj) (o2 : Obj) (o3 : Obj) : List (Addr × Obj) := [(y, lst vs n2), (x, lst us n1), (s.heap.objs.size + 1 + 1 + 1, o3), (s.heap.objs.size + 1 + 1, o2), (s.heap.objs.size + 1, o1)]
noncomputable abbrev cdL (ar : Addr) (al : Addr) (x : Addr) (y : Addr) (p : Nat) (tp : Tok) : List (Str × Value) := [(Str.ofString "reaches", .ref ar), (Str.ofString "laid", .ref al), (Str.ofString "symbols", .ref x), (Str.ofString "sizes", .ref y), (Str.ofString "at", .int (p : Nat) tp)]
noncomputable abbrev cdS (ar : Addr) (al : Addr) (x : Addr) (y : Addr) (p : Nat) (tp : Tok) (c : Nat) (t : Tok) : List (Str × Value) := [(Str.ofString "reaches", .ref ar), (Str.ofString "laid", .ref al), (Str.ofString "symbols", .ref x), (Str.ofString "sizes", .ref y), (Str.ofString "at", .int (p : Nat) tp), (Str.ofString "symbol", .int (c : Nat) t)]
noncomputable abbrev cdF (ar : Addr) (al : Addr) (x : Addr) (y : Addr) (p : Nat) (tp : Tok) (c : Nat) (t : Tok) (f : Addr) : List (Str × Value) := [(Str.ofString "reaches", .ref ar), (Str.ofString "laid", .ref al), (Str.ofString "symbols", .ref x), (Str.ofString "sizes", .ref y), (Str.ofString "at", .int (p : Nat) tp), (Str.ofString "symbol", .int (c : Nat) t), (Str.ofString "front", .ref f)]
noncomputable abbrev cdH (ar : Addr) (al : Addr) (x : Addr) (y : Addr) (p : Nat) (tp : Tok) (c : Nat) (t : Tok) (f : Addr) (lo : Nat) (t1 : Tok) (hi : Nat) (t2 : Tok) : List (Str × Value) := [(Str.ofString "reaches", .ref ar), (Str.ofString "laid", .ref al), (Str.ofString "symbols", .ref x), (Str.ofString "sizes", .ref y), (Str.ofString "at", .int (p : Nat) tp), (Str.ofString "symbol", .int (c : Nat) t), (Str.ofString "front", .ref f), (Str.ofString "low", .int (lo : Nat) t1), (Str.ofString "high", .int (hi : Nat) t2)]
noncomputable abbrev cdE (ar : Addr) (al : Addr) (x : Addr) (y : Addr) (p : Nat) (tp : Tok) (c : Nat) (t : Tok) (f : Addr) (lo : Nat) (t1 : Tok) (hi : Nat) (t2 : Tok) (en : Addr) : List (Str × Value) := [(Str.ofString "reaches", .ref ar), (Str.ofString "laid", .ref al), (Str.ofString "symbols", .ref x), (Str.ofString "sizes", .ref y), (Str.ofString "at", .int (p : Nat) tp), (Str.ofString "symbol", .int (c : Nat) t), (Str.ofString "front", .ref f), (Str.ofString "low", .int (lo : Nat) t1), (Str.ofString "high", .int (hi : Nat) t2), (Str.ofString "ends", .ref en)]
noncomputable abbrev cdP (ar : Addr) (al : Addr) (x : Addr) (y : Addr) (p : Nat) (tp : Tok) (c : Nat) (t : Tok) (f : Addr) (lo : Nat) (t1 : Tok) (hi : Nat) (t2 : Tok) (en : Addr) (pl : Addr) (sp : Nat) (t3 : Tok) : List (Str × Value) := [(Str.ofString "reaches", .ref ar), (Str.ofString "laid", .ref al), (Str.ofString "symbols", .ref x), (Str.ofString "sizes", .ref y), (Str.ofString "at", .int (p : Nat) tp), (Str.ofString "symbol", .int (c : Nat) t), (Str.ofString "front", .ref f), (Str.ofString "low", .int (lo : Nat) t1), (Str.ofString "high", .int (hi : Nat) t2), (Str.ofString "ends", .ref en), (Str.ofString "places", .ref pl), (Str.ofString "spot", .int (sp : Nat) t3)]
noncomputable abbrev cdI (B : Heap) (s : Shared) (tx rs : List Nat) (tt : Tok) (ar al x y : Addr) (m : Nat) (s' : Shared) : Prop := ∃ p us vs pu pv o1 o2 o3 v2 v3 tp n1 n2, tx.length ≤ p + m ∧ p ≤ tx.length ∧ codeW tx rs m p pu pv = codeW tx rs tx.length 0 [] [] ∧ Nats us pu ∧ Nats vs pv ∧ pu.length ≤ p ∧ pv.length ≤ p ∧ o1.data = .cell (some (.str (S tx) tt)) ∧ o2.data = .cell v2 ∧ o3.data = .cell v3 ∧
    Act B s s.heap.objs.size (cdL ar al x y p tp) (cdN s x y us vs n1 n2 o1 o2 o3) T0 s'
noncomputable abbrev cdJ (B : Heap) (s : Shared) (ar al x y : Addr) (p : Nat) (tp : Tok) (c : Nat) (us vs : List Value) (n1 n2 : Nat) (o1 o2 o3 : Obj) (s' : Shared) : Prop := ∃ t, Act B s s.heap.objs.size (cdS ar al x y p tp c t) (cdN s x y us vs n1 n2 o1 o2 o3) T0 s'
noncomputable abbrev cdK (B : Heap) (s : Shared) (ar al x y : Addr) (p : Nat) (tp : Tok) (c : Nat) (t11 : Tok) (f : Addr) (lo : Nat) (t19 : Tok) (hi : Nat) (t21 : Tok) (en : Addr) (us vs : List Value) (n1 n2 : Nat) (o1 o2 o3 : Obj) (tx : List Nat) (sz : Nat) (I2 : Addr) (n2' : Nat) (s' : Shared) : Prop := ∃ j o4 b1 ev ne tc0 tc1, n2' = 2 - j ∧ j ≤ 2 ∧ TI b1 j o4 ∧ b1 < I2 ∧ Nats ev (([lo, lo, hi, hi] : List Nat).take (2 * j)) ∧
          Act B s s.heap.objs.size (cdE ar al x y p tp c t11 f lo t19 hi t21 en)
            ((I2, o4) :: (b1, tup [.str (S []) tc0, .str (S [256]) tc1] 0) :: (en, lst ev ne) :: cdN s x y us vs n1 n2 o1 o2 o3) (KeyF f tx sz) s'
theorem code_spec (G : Gnd w mg mb B) (O : Ok B s.heap) (r : Room 6 A) {tx laid rs : List Nat} {al ar : Addr} {xs ys : List Value} {tt : Tok} (hz : tx.length ≤ 60)
    (ha : s.heap.IsList al xs.toArray) (hx : Nats xs laid) (hb : s.heap.IsList ar ys.toArray) (hy : Nats ys rs) (hll : laid.length = tx.length) (hrl : rs.length = tx.length)
    (hrs : ∀ p, p < tx.length → 1 ≤ rs.getD p 0 ∧ p + rs.getD p 0 ≤ tx.length) (hok : ∀ p, p < tx.length → pieceAt tx rs p ≠ List.replicate (rs.getD p 0) (tx.getD p 0) → CodeOk tx laid rs p)
    (k : ∀ s' tp x y us vs n1 n2, Got s s' [(tp, tup [.ref x, .ref y] 0), (y, lst vs n2), (x, lst us n1)] → Nats us (codeW tx rs tx.length 0 [] []).1 → Nats vs (codeW tx rs tx.length 0 [] []).2 → R (.ok (.ret (.ref tp))) s') :
    codeAny (model PR w) A (.call (.ref 126) ⟨[.str (S tx) tt, .ref al, .ref ar], []⟩) R s := by
  refine enterC (fd := F126.1) (binds := [(Str.ofString "text", .str (S tx) tt), (Str.ofString "laid", .ref al), (Str.ofString "reaches", .ref ar)]) G O r (F126.2 w) cd126 rfl (BindsTo.of_eq (by rfl)) (by rfl) (by decide) ?_
  intro A s₁ X r
  obtain ⟨o1, o2, o3, d1, d2, d3, D⟩ := O.inCallC3 (l := [(Str.ofString "reaches", .ref ar), (Str.ofString "laid", .ref al)]) (x1 := Str.ofString "text") (x2 := Str.ofString "size") (x3 := Str.ofString "piece") (v1 := some (.str (S tx) tt)) (v2 := none) (v3 := none) X (by rfl) (by rfl) (by rfl) (by rfl) (by rfl) (by rfl) (by
    intro y
    show (if y = Str.ofString "reaches" then _ else if y = Str.ofString "laid" then _ else _) = _
    by_cases h1 : y = Str.ofString "laid" <;> by_cases h2 : y = Str.ofString "reaches"
    · rw [h1] at h2; exact absurd h2 (by decide)
    · subst h1; rfl
    · subst h2; rfl
    · rw [if_neg h1, if_neg h2, List.lookup_cons, beq_eq_false_iff_ne.mpr h2, List.lookup_cons, beq_eq_false_iff_ne.mpr h1]; rfl)
  clear X
  refine x_assignK ?_
  intro K9 k9
  refine List_ ?_
  (with_reducible refine sp_nil ?_)
  refine n_list D (by simp) ?_
  intro x s2 D2
  refine k9 _ _ ?_
  ((with_reducible refine' stL ?D ?_ ?hk ?hx ?hL); (case hL => exact rfl); (case D => assumption); (case hx => exact rfl); (case hk => exact rfl); intro _ _)
  refine x_assignK ?_
  intro K9 k9
  refine List_ ?_
  (with_reducible refine sp_nil ?_)
  refine n_list (by assumption) (by simp) ?_
  intro y s3 D3
  refine k9 _ _ ?_
  ((with_reducible refine' stL ?D ?_ ?hk ?hx ?hL); (case hL => exact rfl); (case D => assumption); (case hx => exact rfl); (case hk => exact rfl); intro _ _)
  refine x_assignK ?_
  intro K9 k9
  ((with_reducible refine' e_int ?D ?_); (case D => assumption); intro _ _ _)
  refine k9 _ _ ?_
  ((with_reducible refine' stL ?D ?_ ?hk ?hx ?hL); (case hL => exact rfl); (case D => assumption); (case hx => exact rfl); (case hk => exact rfl); intro _ _)
  refine x_whileW (cdI B s tx rs tt ar al x y) ?_ tx.length
    ⟨0, [], [], [], [], o1, o2, o3, _, _, _, 0, 0, by first | with_reducible exact Nat.le_add_left .. | lia | omega, Nat.zero_le _, rfl, .nil, .nil, Nat.le_refl _, Nat.le_refl _, d1, d2, d3, by assumption⟩
  rintro m s4 ⟨p, us, vs, pu, pv, o1, o2, o3, v2, v3, tp, n1, n2, hpm, hpl, hcw, hus, hvs, hul, hvl, d1, d2, d3, D4⟩
  intro W1 z1 r1 K8 k8
  ((with_reducible refine wpAny_isTrue_Compare1 ?_ ?hm); (case hm => with_unfolding_all rfl))
  ((with_reducible refine' nmQ ?D ?v ?_ ?o ?L); (case L => exact rfl); (case o => exact Eq.refl true); (case D => assumption); (case v => exact rfl))
  (((with_reducible refine' fn_B boot_len' ?G ?D b_len ?_ ?hs ?hc); (case hc => exact .inl ⟨_, rfl⟩)); (case hs => (repeat' apply And.intro) <;> exact rfl); (case G => assumption); (case D => assumption))
  ((with_reducible refine sp_cons ?_ ?he); (case he => exact rfl))
  refine nmC ⟨o1, D4.at 4 rfl, d1⟩ rfl ?_
  (with_reducible refine sp_nil ?_)
  refine t_len (by assumption) (by first | with_reducible exact a3 ‹_› (by decide) | lia | omega) ?_
  intro s5 t5 D5
  (with_reducible refine o_lt ?_)
  (with_reducible refine wpAny_truthy_bool ?_)
  refine k8 _ _ ?_
  refine ⟨fun h => ?_, fun h => ?_⟩
  · have hlt : p < tx.length := by have := of_decide_eq_true h; first | with_reducible exact s18 ‹_› | lia | omega
    obtain ⟨m, rfl⟩ : ∃ m', m = m' + 1 := ⟨m - 1, by first | with_reducible exact t77 ‹_› ‹_› | lia | omega⟩
    obtain ⟨hr1, hr2⟩ := hrs p hlt
    obtain ⟨sz, hsz⟩ : ∃ sz, sz = rs.getD p 0 := ⟨_, rfl⟩
    obtain ⟨ts, hts⟩ := hy.get (getD_some (l := rs) (i := p) (by first | decide | assumption | exact a1 ‹_› | exact a2 ‹_› | exact a3 ‹_› (by decide) | exact dl ‹_› | exact ee ‹_› ‹_› | lia | omega))
    rw [← hsz] at hr1 hr2 hts
    refine x_assignK ?_
    intro K9 k9
    (with_reducible refine Subscript_ ?_)
    ((with_reducible refine' nmQ ?D ?v ?_ ?o ?L); (case L => exact rfl); (case o => exact Eq.refl true); (case D => assumption); (case v => exact rfl))
    ((with_reducible refine' nmQ ?D ?v ?_ ?o ?L); (case L => exact rfl); (case o => exact Eq.refl true); (case D => assumption); (case v => exact rfl))
    refine l_item (Heap.IsList.ext hb O.tab (Act.ext (by assumption))) hts (by rw [hy.len]; first | with_reducible exact Nat.le_trans (s10 ‹_ = _› ‹_›) (by decide) | lia | omega) ?_
    refine k9 _ _ ?_
    refine stC D5 3 rfl d2 ?_
    intro s6 o2' d2' D6
    refine x_assignK ?_
    intro K9 k9
    (with_reducible refine Subscript_ ?_)
    refine nmC ⟨o1, D6.at 4 rfl, d1⟩ rfl ?_
    refine wpAny_Slice ?_
    refine evalPart_some_step ?_
    ((with_reducible refine' nmQ ?D ?v ?_ ?o ?L); (case L => exact rfl); (case o => exact Eq.refl true); (case D => assumption); (case v => exact rfl))
    refine evalPart_some_step ?_
    (with_reducible refine wpAny_BinOp ?_)
    ((with_reducible refine' nmQ ?D ?v ?_ ?o ?L); (case L => exact rfl); (case o => exact Eq.refl true); (case D => assumption); (case v => exact rfl))
    refine nmC ⟨o2', D6.at 3 rfl, d2'⟩ rfl ?_
    refine o_addK (k := ((p + sz : Nat) : Int)) (by first | rfl | lia | omega) (by assumption) ?_
    intro s7 t7 D7
    refine evalPart_none_step ?_
    refine t_ss (by assumption) (by first | with_reducible exact a3 ‹_› (by decide) | lia | omega) ?_
    intro s8 t8 D8
    obtain ⟨pc, hpc⟩ : ∃ pc, pc = (tx.take (p + sz)).drop p := ⟨_, rfl⟩
    rw [← hpc]
    have hpcl : pc.length ≤ 60 := by rw [hpc, List.length_drop, List.length_take]; first | with_reducible exact s50 ‹_› | lia | omega
    refine k9 _ _ ?_
    refine stC D8 2 rfl d3 ?_
    intro s9 o3' d3' D9
    have hpa : pieceAt tx rs p = pc := by unfold pieceAt; rw [← hsz, hpc]
    refine x_assignK ?_
    intro K9 k9
    (((with_reducible refine' fn_B boot_ord ?G ?D b_ord ?_ ?hs ?hc); (case hc => exact .inl ⟨_, rfl⟩)); (case hs => (repeat' apply And.intro) <;> exact rfl); (case G => assumption); (case D => assumption))
    ((with_reducible refine sp_cons ?_ ?he); (case he => exact rfl))
    (with_reducible refine Subscript_ ?_)
    refine nmC ⟨o1, D9.at 4 rfl, d1⟩ rfl ?_
    ((with_reducible refine' nmQ ?D ?v ?_ ?o ?L); (case L => exact rfl); (case o => exact Eq.refl true); (case D => assumption); (case v => exact rfl))
    refine t_item (by assumption) (getD_some hlt) (by first | with_reducible exact a3 ‹_› (by decide) | lia | omega) ?_
    intro s10 t10 D10
    (with_reducible refine sp_nil ?_)
    refine t_ord (by assumption) ?_
    intro s11 t11 D11
    refine k9 _ _ ?_
    ((with_reducible refine' stL ?D ?_ ?hk ?hx ?hL); (case hL => exact rfl); (case D => assumption); (case hx => exact rfl); (case hk => exact rfl); intro _ _)
    refine x_if_toW (cdJ B s ar al x y p tp (symAt tx rs p) us vs n1 n2 o1 o2' o3') ?_ ?_
    · intro K9 W9 w9 k9
      ((with_reducible refine wpAny_isTrue_Compare1 ?_ ?hm); (case hm => with_unfolding_all rfl))
      refine nmC ⟨o3', Act.at (by assumption) 2 rfl, d3'⟩ rfl ?_
      (with_reducible refine wpAny_BinOp ?_)
      (with_reducible refine Subscript_ ?_)
      refine nmC ⟨o1, Act.at (by assumption) 4 rfl, d1⟩ rfl ?_
      ((with_reducible refine' nmQ ?D ?v ?_ ?o ?L); (case L => exact rfl); (case o => exact Eq.refl true); (case D => assumption); (case v => exact rfl))
      refine t_item (by assumption) (getD_some hlt) (by first | with_reducible exact a3 ‹_› (by decide) | lia | omega) ?_
      intro s12 t12 D12
      refine nmC ⟨o2', D12.at 3 rfl, d2'⟩ rfl ?_
      refine t_mul (by assumption) (by simp) (by first | decide | assumption | exact a1 ‹_› | exact a2 ‹_› | exact a3 ‹_› (by decide) | exact dl ‹_› | exact ee ‹_› ‹_› | lia | omega) ?_
      intro s13 t13 D13
      rw [rep_one]
      refine t_ne ?_
      (with_reducible refine wpAny_truthy_bool ?_)
      refine k9 _ _ ?_
      refine ⟨fun h => ?_, fun h => ?_⟩
      · have hnr : pc ≠ List.replicate sz (tx.getD p 0) := by simpa using h
        have ok := hok p hlt (by rw [hpa, ← hsz]; exact hnr)
        refine x_assignK ?_
        intro K9 k9
        ((with_reducible refine' fn_Q ?G ?D g107 F107.2 ?_ ?hs ?he); (case hs => exact Eq.refl true); (case he => exact rfl); (case G => assumption); (case D => assumption))
        ((with_reducible refine sp_cons ?_ ?he); (case he => exact rfl))
        refine nmC ⟨o1, D13.at 4 rfl, d1⟩ rfl ?_
        ((with_reducible refine sp_cons ?_ ?he); (case he => exact rfl))
        refine nmC ⟨o2', D13.at 3 rfl, d2'⟩ rfl ?_
        (with_reducible refine sp_nil ?_)
        refine ⟨D13.ok, ?_⟩
        refine front_spec (tx := tx) (sz := sz) G D13.ok (r.weak (by decide)) ?_
        intro s14 f X14 hf hk14
        have D14 := (D13.aft X14).know (KeyF.kept f tx sz) ⟨hk14.ne X14.tab, hk14⟩
        refine k9 _ _ ?_
        refine stL D14 ?_ rfl rfl
        intro s15 D15
        have D15 : Act B s s.heap.objs.size (cdF ar al x y p tp (tx.getD p 0) t11 f) (cdN s x y us vs n1 n2 o1 o2' o3') (KeyF f tx sz) s15 := D15
        clear D14
        refine x_assignK ?_
        intro K9 k9
        refine wpAny_Call_Name_kw ?_
        refine nmG G (by assumption) g62 ?_
        refine c_fnk G F62.2 ?_
        ((with_reducible refine sp_cons ?_ ?he); (case he => exact rfl))
        ((with_reducible refine' nmQ ?D ?v ?_ ?o ?L); (case L => exact rfl); (case o => exact Eq.refl true); (case D => assumption); (case v => exact rfl))
        ((with_reducible refine sp_cons ?_ ?he); (case he => exact rfl))
        ((with_reducible refine' fn_Q ?G ?D g69 F69.2 ?_ ?hs ?he); (case hs => exact Eq.refl true); (case he => exact rfl); (case G => assumption); (case D => assumption))
        ((with_reducible refine sp_cons ?_ ?he); (case he => exact rfl))
        refine nmC ⟨o3', Act.at (by assumption) 2 rfl, d3'⟩ rfl ?_
        (with_reducible refine sp_nil ?_)
        refine ⟨Act.ok (by assumption), ?_⟩
        refine strx_spec G (Act.ok (by assumption)) (r.weak (by decide)) ?_
        intro s18 X18
        have D18 := Act.aft (by assumption) X18
        (with_reducible refine sp_nil ?_)
        (with_reducible refine kw_cons ?_)
        ((with_reducible refine' nmQ ?D ?v ?_ ?o ?L); (case L => exact rfl); (case o => exact Eq.refl true); (case D => assumption); (case v => exact rfl))
        (with_reducible refine kw_nil ?_)
        refine ⟨Act.ok (by assumption), ?_⟩
        refine bisL_key (lo := 0) (hi := laid.length) (tx := tx) (sz := sz) G (Act.ok (by assumption)) (r.weak (by decide)) (bL2 (G.In (Act.ok (by assumption)))) (Heap.IsList.ext ha O.tab (Act.ext (by assumption))) hx (by first | with_reducible exact Nat.le_trans (s10 ‹_ = _› ‹_›) (by decide) | lia | omega) (by first | with_reducible exact a3 ‹_› (by decide) | lia | omega) (Act.key (by assumption)) (.inl ⟨rfl, rfl⟩) (Nat.le_refl _) ?_
        intro s19 t19 X19
        have D19 := Act.aft (by assumption) X19
        refine k9 _ _ ?_
        refine stL D19 ?_ rfl rfl
        intro s20 D20
        refine x_assignK ?_
        intro K9 k9
        refine wpAny_Call_Name_kw ?_
        refine nmG G (by assumption) g44 ?_
        refine c_fnk G F44.2 ?_
        ((with_reducible refine sp_cons ?_ ?he); (case he => exact rfl))
        ((with_reducible refine' nmQ ?D ?v ?_ ?o ?L); (case L => exact rfl); (case o => exact Eq.refl true); (case D => assumption); (case v => exact rfl))
        ((with_reducible refine sp_cons ?_ ?he); (case he => exact rfl))
        refine nmC ⟨o3', Act.at (by assumption) 2 rfl, d3'⟩ rfl ?_
        (with_reducible refine sp_nil ?_)
        (with_reducible refine kw_cons ?_)
        ((with_reducible refine' nmQ ?D ?v ?_ ?o ?L); (case L => exact rfl); (case o => exact Eq.refl true); (case D => assumption); (case v => exact rfl))
        (with_reducible refine kw_nil ?_)
        refine ⟨Act.ok (by assumption), ?_⟩
        refine bisR_key (lo := 0) (hi := laid.length) (tx := tx) (sz := sz) G (Act.ok (by assumption)) (r.weak (by decide)) (bR2 (G.In (Act.ok (by assumption)))) (Heap.IsList.ext ha O.tab (Act.ext (by assumption))) hx (by first | with_reducible exact Nat.le_trans (s10 ‹_ = _› ‹_›) (by decide) | lia | omega) (by first | with_reducible exact a3 ‹_› (by decide) | lia | omega) (Act.key (by assumption)) (.inl ⟨rfl, rfl⟩) (Nat.le_refl _) ?_
        intro s21 t21 X21
        have D21 := Act.aft (by assumption) X21
        refine k9 _ _ ?_
        refine stL D21 ?_ rfl rfl
        intro s22 D22
        obtain ⟨lo, hlo⟩ : ∃ lo, lo = lowC tx laid pc sz := ⟨_, rfl⟩
        obtain ⟨hi, hhi⟩ : ∃ hi, hi = highC tx laid pc sz := ⟨_, rfl⟩
        have D22 : Act B s s.heap.objs.size (cdH ar al x y p tp (tx.getD p 0) t11 f lo t19 hi t21) (cdN s x y us vs n1 n2 o1 o2' o3') (KeyF f tx sz) s22 := by
          rw [hlo, hhi]; exact D22
        clear D21 D19 D20
        refine x_assignK ?_
        intro K9 k9
        refine List_ ?_
        (with_reducible refine sp_nil ?_)
        refine n_list D22 (by simp) ?_
        intro en s23 D23
        refine k9 _ _ ?_
        ((with_reducible refine' stL ?D ?_ ?hk ?hx ?hL); (case hL => exact rfl); (case D => assumption); (case hx => exact rfl); (case hk => exact rfl); intro _ _)
        refine x_forW (cdK B s ar al x y p tp (tx.getD p 0) t11 f lo t19 hi t21 en us vs n1 n2 o1 o2' o3' tx sz) ?_ ?_
        · intro K9 k9
          refine Tuple_ ?_
          ((with_reducible refine sp_cons ?_ ?he); (case he => exact rfl))
          refine e_str (by assumption) ?_
          intro s24 t24 D24
          ((with_reducible refine sp_cons ?_ ?he); (case he => exact rfl))
          refine e_str (by assumption) ?_
          intro s25 t25 D25
          (with_reducible refine sp_nil ?_)
          refine n_tup D25 (by simp) ?_
          intro b1 s26 D26
          refine i_tup D26 (D26.at 0 rfl) ?_
          intro I2 o4 s27 ho4 hlt4 D27
          exact k9 _ _ ⟨I2, _, rfl, 0, o4, b1, [], 0, t24, t25, rfl, by first | decide | assumption | exact a1 ‹_› | exact a2 ‹_› | exact a3 ‹_› (by decide) | exact dl ‹_› | exact ee ‹_› ‹_› | lia | omega, ho4, hlt4, .nil, D27⟩
        · rintro I2 n2' s23 ⟨j, o4, b1, ev, ne, tc0, tc1, rfl, hj, ho4, hb4, hev, D23⟩
          intro W2 z2 r2
          have W := It.tuple (w := w) (I := I2) (a := b1) r.hh (Nat.ne_of_lt hb4) [.str (S []) tc0, .str (S [256]) tc1]
          have hhn : hi ≤ laid.length := by have := ok.hn; rw [hpa, ← hsz, ← hhi] at this; exact this
          by_cases hj2 : j < 2
          · refine W.step D23 0 rfl ho4 ⟨_, D23.at 1 rfl, rfl, _, rfl⟩ hj2 ?_
            intro v s24 o4' hv ho4' D24
            obtain ⟨c, tcc, k1, k2, rfl, hk1, hk2, htk⟩ : ∃ (c : List Nat) (tcc : Tok) (k1 k2 : Nat), v = .str (S c) tcc ∧ bis (fun i => decide (keyOf tx sz (laid.getD i 0) < c)) hi lo hi = k1 ∧ bis (fun i => !decide (c < keyOf tx sz (laid.getD i 0))) hi lo hi = k2 ∧
                ([lo, lo, hi, hi] : List Nat).take (2 * (j + 1)) = ([lo, lo, hi, hi] : List Nat).take (2 * j) ++ [k1] ++ [k2] := by
              have e1 := ok.e1
              have e2 := ok.e2
              have e3 := ok.e3
              have e4 := ok.e4
              rw [hpa, ← hsz, ← hhi, ← hlo] at e1 e2 e3 e4
              match j, hj2, hv with
              | 0, _, hv => cases hv; exact ⟨[], tc0, lo, lo, rfl, e1, e2, rfl⟩
              | 1, _, hv => cases hv; exact ⟨[256], tc1, hi, hi, rfl, e3, e4, rfl⟩
            ((with_reducible refine' stL ?D ?_ ?hk ?hx ?hL); (case hL => exact rfl); (case D => assumption); (case hx => exact rfl); (case hk => exact rfl); intro _ _)
            refine x_exprK ?_
            intro K9 k9
            refine MethodCall_ ?_
            ((with_reducible refine' nmQ ?D ?v ?_ ?o ?L); (case L => exact rfl); (case o => exact Eq.refl true); (case D => assumption); (case v => exact rfl))
            refine m_list (Act.at (by assumption) 2 rfl) PySem.F.slot_list_append PySem.F.type_list_append ?_
            refine callWith_method1 ?_
            ((with_reducible refine sp_cons ?_ ?he); (case he => exact rfl))
            refine wpAny_Call_Name_kw ?_
            refine nmG G (by assumption) g62 ?_
            refine c_fnk G F62.2 ?_
            ((with_reducible refine sp_cons ?_ ?he); (case he => exact rfl))
            ((with_reducible refine' nmQ ?D ?v ?_ ?o ?L); (case L => exact rfl); (case o => exact Eq.refl true); (case D => assumption); (case v => exact rfl))
            ((with_reducible refine sp_cons ?_ ?he); (case he => exact rfl))
            ((with_reducible refine' nmQ ?D ?v ?_ ?o ?L); (case L => exact rfl); (case o => exact Eq.refl true); (case D => assumption); (case v => exact rfl))
            ((with_reducible refine sp_cons ?_ ?he); (case he => exact rfl))
            ((with_reducible refine' nmQ ?D ?v ?_ ?o ?L); (case L => exact rfl); (case o => exact Eq.refl true); (case D => assumption); (case v => exact rfl))
            ((with_reducible refine sp_cons ?_ ?he); (case he => exact rfl))
            ((with_reducible refine' nmQ ?D ?v ?_ ?o ?L); (case L => exact rfl); (case o => exact Eq.refl true); (case D => assumption); (case v => exact rfl))
            (with_reducible refine sp_nil ?_)
            (with_reducible refine kw_cons ?_)
            ((with_reducible refine' nmQ ?D ?v ?_ ?o ?L); (case L => exact rfl); (case o => exact Eq.refl true); (case D => assumption); (case v => exact rfl))
            (with_reducible refine kw_nil ?_)
            refine ⟨Act.ok (by assumption), ?_⟩
            refine bisL_key (lo := lo) (hi := hi) (tx := tx) (sz := sz) G (Act.ok (by assumption)) (r.weak (by decide)) (bL4 (G.In (Act.ok (by assumption)))) (Heap.IsList.ext ha O.tab (Act.ext (by assumption))) hx (by first | with_reducible exact Nat.le_trans (s10 ‹_ = _› ‹_›) (by decide) | lia | omega) (by first | with_reducible exact a3 ‹_› (by decide) | lia | omega) (Act.key (by assumption)) (.inr ⟨_, rfl⟩) hhn ?_
            intro s26 t26 X26
            have D26 := Act.aft (by assumption) X26
            rw [hk1]
            (with_reducible refine sp_nil ?_)
            refine a_append D26 2 rfl (by have := hev.len; rw [List.length_take] at this; first | lia | omega) ?_
            intro s27 m27 D27
            refine k9 _ _ ?_
            refine ⟨fun a q => (by cases q), ?_⟩
            refine x_exprK ?_
            intro K9 k9
            refine MethodCall_ ?_
            ((with_reducible refine' nmQ ?D ?v ?_ ?o ?L); (case L => exact rfl); (case o => exact Eq.refl true); (case D => assumption); (case v => exact rfl))
            refine m_list (Act.at (by assumption) 2 rfl) PySem.F.slot_list_append PySem.F.type_list_append ?_
            refine callWith_method1 ?_
            ((with_reducible refine sp_cons ?_ ?he); (case he => exact rfl))
            refine wpAny_Call_Name_kw ?_
            refine nmG G (by assumption) g44 ?_
            refine c_fnk G F44.2 ?_
            ((with_reducible refine sp_cons ?_ ?he); (case he => exact rfl))
            ((with_reducible refine' nmQ ?D ?v ?_ ?o ?L); (case L => exact rfl); (case o => exact Eq.refl true); (case D => assumption); (case v => exact rfl))
            ((with_reducible refine sp_cons ?_ ?he); (case he => exact rfl))
            ((with_reducible refine' nmQ ?D ?v ?_ ?o ?L); (case L => exact rfl); (case o => exact Eq.refl true); (case D => assumption); (case v => exact rfl))
            ((with_reducible refine sp_cons ?_ ?he); (case he => exact rfl))
            ((with_reducible refine' nmQ ?D ?v ?_ ?o ?L); (case L => exact rfl); (case o => exact Eq.refl true); (case D => assumption); (case v => exact rfl))
            ((with_reducible refine sp_cons ?_ ?he); (case he => exact rfl))
            ((with_reducible refine' nmQ ?D ?v ?_ ?o ?L); (case L => exact rfl); (case o => exact Eq.refl true); (case D => assumption); (case v => exact rfl))
            (with_reducible refine sp_nil ?_)
            (with_reducible refine kw_cons ?_)
            ((with_reducible refine' nmQ ?D ?v ?_ ?o ?L); (case L => exact rfl); (case o => exact Eq.refl true); (case D => assumption); (case v => exact rfl))
            (with_reducible refine kw_nil ?_)
            refine ⟨Act.ok (by assumption), ?_⟩
            refine bisR_key (lo := lo) (hi := hi) (tx := tx) (sz := sz) G (Act.ok (by assumption)) (r.weak (by decide)) (bR4 (G.In (Act.ok (by assumption)))) (Heap.IsList.ext ha O.tab (Act.ext (by assumption))) hx (by first | with_reducible exact Nat.le_trans (s10 ‹_ = _› ‹_›) (by decide) | lia | omega) (by first | with_reducible exact a3 ‹_› (by decide) | lia | omega) (Act.key (by assumption)) (.inr ⟨_, rfl⟩) hhn ?_
            intro s28 t28 X28
            have D28 := Act.aft (by assumption) X28
            rw [hk2]
            (with_reducible refine sp_nil ?_)
            refine a_append D28 2 rfl (by have := hev.len; rw [List.length_take] at this; rw [List.length_append, List.length_singleton]; first | lia | omega) ?_
            intro s29 m29 D29
            refine k9 _ _ ?_
            refine ⟨fun a q => (by cases q), ?_⟩
            refine x_nil ?_
            refine z2 _ ?_
            refine ⟨2 - (j + 1), by first | decide | assumption | exact a1 ‹_› | exact a2 ‹_› | exact a3 ‹_› (by decide) | exact dl ‹_› | exact ee ‹_› ‹_› | lia | omega, j + 1, o4', b1, _, _, tc0, tc1, rfl, by first | decide | assumption | exact a1 ‹_› | exact a2 ‹_› | exact a3 ‹_› (by decide) | exact dl ‹_› | exact ee ‹_› ‹_› | lia | omega, ho4', hb4, ?_, Act.pre (r := [(Str.ofString "end", .str (S c) tcc)]) D29⟩
            rw [htk]
            exact (hev.app (Nats.one _ _)).app (Nats.one _ _)
          · have hje : j = 2 := by first | decide | assumption | exact a1 ‹_› | exact a2 ‹_› | exact a3 ‹_› (by decide) | exact dl ‹_› | exact ee ‹_› ‹_› | lia | omega
            subst hje
            refine W.end (o := o4) D23 0 rfl ho4 ⟨_, D23.at 1 rfl, rfl, _, rfl⟩ ?_
            intro s24 D24
            refine x_assign_comp ?_
            (((with_reducible refine' fn_B boot_range ?G ?D b_range ?_ ?hs ?hc); (case hc => exact .inr ⟨_, rfl⟩)); (case hs => (repeat' apply And.intro) <;> exact rfl); (case G => assumption); (case D => assumption))
            ((with_reducible refine sp_cons ?_ ?he); (case he => exact rfl))
            (((with_reducible refine' fn_B boot_len' ?G ?D b_len ?_ ?hs ?hc); (case hc => exact .inl ⟨_, rfl⟩)); (case hs => (repeat' apply And.intro) <;> exact rfl); (case G => assumption); (case D => assumption))
            ((with_reducible refine sp_cons ?_ ?he); (case he => exact rfl))
            refine nmC ⟨o1, D24.at 6 rfl, d1⟩ rfl ?_
            (with_reducible refine sp_nil ?_)
            refine t_len (by assumption) (by first | with_reducible exact a3 ‹_› (by decide) | lia | omega) ?_
            intro s25 t25 D25
            (with_reducible refine sp_nil ?_)
            refine r_1 (by assumption) ?_
            intro rr s26 tr ur vr D26 hr26
            refine comp_r1 D26 r.hh hr26 (by first | with_reducible exact a3 ‹_› (by decide) | lia | omega) (fun i ys => Nats ys (placesC tx pc sz i) ∧ i ≤ tx.length) ⟨.nil, Nat.zero_le _⟩ (fun i ys h => by rw [h.1.len]; have := placesC_len tx pc sz i; first | lia | omega) ?_ ?_
            · intro i ti oi zs mz s27 hi hF D27
              have q1 := D26.thru D27 6 rfl
              have q2 := D26.thru D27 5 rfl
              have q3 := D26.thru D27 4 rfl
              refine wpAny_tests_one ?_
              ((with_reducible refine wpAny_isTrue_Compare1 ?_ ?hm); (case hm => with_unfolding_all rfl))
              (with_reducible refine Subscript_ ?_)
              refine nmC ⟨o1, q1, d1⟩ rfl ?_
              refine wpAny_Slice ?_
              refine evalPart_some_step ?_
              ((with_reducible refine' nmQ ?D ?v ?_ ?o ?L); (case L => exact rfl); (case o => exact Eq.refl true); (case D => assumption); (case v => exact rfl))
              refine evalPart_some_step ?_
              (with_reducible refine wpAny_BinOp ?_)
              ((with_reducible refine' nmQ ?D ?v ?_ ?o ?L); (case L => exact rfl); (case o => exact Eq.refl true); (case D => assumption); (case v => exact rfl))
              refine nmC ⟨o2', q2, d2'⟩ rfl ?_
              refine o_addK (k := ((i + sz : Nat) : Int)) (by first | rfl | lia | omega) (by assumption) ?_
              intro s28 t28 D28
              refine evalPart_none_step ?_
              refine t_ss (by assumption) (by first | with_reducible exact a3 ‹_› (by decide) | lia | omega) ?_
              intro s29 t29 D29
              refine nmC ⟨o3', D26.thru D29 4 rfl, d3'⟩ rfl ?_
              refine t_eq ?_
              (with_reducible refine wpAny_truthy_bool ?_)
              refine ⟨fun h => ?_, fun h => ⟨D29, ?_, hi⟩⟩
              · ((with_reducible refine' nmQ ?D ?v ?_ ?o ?L); (case L => exact rfl); (case o => exact Eq.refl true); (case D => assumption); (case v => exact rfl))
                refine ⟨D29, ?_, hi⟩
                rewrite [placesC]
                rw [if_pos (by simpa using h)]
                exact hF.1.app (Nats.one _ _)
              · rewrite [placesC]
                rw [if_neg (by simpa using h)]
                exact hF.1
            · intro zs mz s27 hF D27
              refine comp_some D26 D27 ?_ rfl rfl rfl
              intro s28 D28
              obtain ⟨pl, hpl2⟩ : ∃ pl, pl = s26.heap.objs.size + 1 := ⟨_, rfl⟩
              rw [← hpl2] at D28
              obtain ⟨ps, hps⟩ : ∃ ps, ps = placesC tx pc sz tx.length := ⟨_, rfl⟩
              have hzs : Nats zs ps := by rw [hps]; exact hF.1
              have hpsl : ps.length ≤ 60 := by have := placesC_len tx pc sz tx.length; rw [← hps] at this; first | with_reducible exact Nat.le_trans ‹_› ‹_› | lia | omega
              have hhn : hi ≤ laid.length := by have := ok.hn; rw [hpa, ← hsz, ← hhi] at this; exact this
              have q1 := ok.s1
              have q2 := ok.s2
              have q3 := ok.s3
              have q4 := ok.srt
              rw [hpa, ← hsz, ← hps] at q1 q2 q3
              rw [hpa, ← hsz, ← hlo, ← hhi, ← hps] at q4
              obtain ⟨sp, hsp⟩ : ∃ sp, sp = sLeft ps p := ⟨_, rfl⟩
              rw [← hsp] at q1 q2 q3
              clear D27 D26 D25 D24 D23 D22 D18 D13 D12 D11 D10 D9 D8 D7 D6 D5
              refine x_assignK ?_
              intro K9 k9
              refine wpAny_Call_Name_kw ?_
              refine nmG G D28 g62 ?_
              refine c_fn G F62.2 ?_
              ((with_reducible refine sp_cons ?_ ?he); (case he => exact rfl))
              ((with_reducible refine' nmQ ?D ?v ?_ ?o ?L); (case L => exact rfl); (case o => exact Eq.refl true); (case D => assumption); (case v => exact rfl))
              ((with_reducible refine sp_cons ?_ ?he); (case he => exact rfl))
              ((with_reducible refine' nmQ ?D ?v ?_ ?o ?L); (case L => exact rfl); (case o => exact Eq.refl true); (case D => assumption); (case v => exact rfl))
              (with_reducible refine sp_nil ?_)
              refine ⟨D28.ok, ?_⟩
              refine bisL_int (lo := 0) (hi := ps.length) G D28.ok (r.weak (by decide)) (bL0 (G.In D28.ok)) (lst_is (D28.at 0 rfl)) hzs (by first | decide | assumption | exact a1 ‹_› | exact a2 ‹_› | exact a3 ‹_› (by decide) | exact dl ‹_› | exact ee ‹_› ‹_› | lia | omega) (.inl ⟨rfl, rfl⟩) (Nat.le_refl _) ?_
              intro s29 t29 X29
              have D29 := D28.aft X29
              refine k9 _ _ ?_
              refine stL D29 ?_ rfl rfl
              intro s30 D30
              have D30 : Act B s s.heap.objs.size (cdP ar al x y p tp (tx.getD p 0) t11 f lo t19 hi t21 en pl sp t29)
                  ((pl, lst zs mz) :: (b1, tup [.str (S []) tc0, .str (S [256]) tc1] 0) :: (en, lst ev ne) :: cdN s x y us vs n1 n2 o1 o2' o3') (KeyF f tx sz) s30 := by
                rw [hsp]; exact D30
              clear D29 D28
              refine x_ifBK false (fun s' => Act B s s.heap.objs.size (cdP ar al x y p tp (tx.getD p 0) t11 f lo t19 hi t21 en pl sp t29)
                  ((pl, lst zs mz) :: (b1, tup [.str (S []) tc0, .str (S [256]) tc1] 0) :: (en, lst ev ne) :: cdN s x y us vs n1 n2 o1 o2' o3') (KeyF f tx sz) s') ?_ (fun h => by cases h) ?_
              · intro K9 k9
                refine wpAny_isTrue_BoolOp ?_
                refine wpAny_allTrue_Or_cons ?_
                ((with_reducible refine wpAny_isTrue_Compare1 ?_ ?hm); (case hm => with_unfolding_all rfl))
                (((with_reducible refine' fn_B boot_sorted ?G ?D b_sorted ?_ ?hs ?hc); (case hc => exact .inl ⟨_, rfl⟩)); (case hs => (repeat' apply And.intro) <;> exact rfl); (case G => assumption); (case D => assumption))
                ((with_reducible refine sp_cons ?_ ?he); (case he => exact rfl))
                (with_reducible refine Subscript_ ?_)
                ((with_reducible refine' nmQ ?D ?v ?_ ?o ?L); (case L => exact rfl); (case o => exact Eq.refl true); (case D => assumption); (case v => exact rfl))
                refine wpAny_Slice ?_
                refine evalPart_some_step ?_
                ((with_reducible refine' nmQ ?D ?v ?_ ?o ?L); (case L => exact rfl); (case o => exact Eq.refl true); (case D => assumption); (case v => exact rfl))
                refine evalPart_some_step ?_
                ((with_reducible refine' nmQ ?D ?v ?_ ?o ?L); (case L => exact rfl); (case o => exact Eq.refl true); (case D => assumption); (case v => exact rfl))
                refine evalPart_none_step ?_
                refine l_slice (ys := (xs.take hi).drop lo) D30 (Heap.IsList.ext ha O.tab D30.ext) (by rw [hx.len]; first | with_reducible exact Nat.le_trans (s10 ‹_ = _› ‹_›) (by decide) | lia | omega) (.int _ _) (.int _ _) .none (by simp) (pick_run _ _ _) ?_
                intro b2 s31 D31
                (with_reducible refine sp_nil ?_)
                refine c_sortN D31 (lst_is (D31.at 0 rfl)) ((hx.take hi).drop lo) (by rw [List.length_drop, List.length_take]; first | with_reducible exact t26 ‹_› ‹_› | lia | omega) ?_
                intro b3 s32 ys3 qs3 n3 D32 hq3 hp3 hw3
                ((with_reducible refine' nmQ ?D ?v ?_ ?o ?L); (case L => exact rfl); (case o => exact Eq.refl true); (case D => assumption); (case v => exact rfl))
                refine l_neN (lst_is (D32.at 0 rfl)) (lst_is (D32.at 2 rfl)) hq3 hzs (by have := r.un; show A.units + 64 < 9900; first | lia | omega) ?_
                (with_reducible refine wpAny_truthy_bool ?_)
                rw [q4 qs3 hp3 hw3]
                rw [if_neg (by simp)]
                refine wpAny_allTrue_Or_cons ?_
                ((with_reducible refine wpAny_isTrue_Compare1 ?_ ?hm); (case hm => with_unfolding_all rfl))
                ((with_reducible refine' nmQ ?D ?v ?_ ?o ?L); (case L => exact rfl); (case o => exact Eq.refl true); (case D => assumption); (case v => exact rfl))
                refine List_ ?_
                ((with_reducible refine sp_cons ?_ ?he); (case he => exact rfl))
                ((with_reducible refine' nmQ ?D ?v ?_ ?o ?L); (case L => exact rfl); (case o => exact Eq.refl true); (case D => assumption); (case v => exact rfl))
                ((with_reducible refine sp_cons ?_ ?he); (case he => exact rfl))
                ((with_reducible refine' nmQ ?D ?v ?_ ?o ?L); (case L => exact rfl); (case o => exact Eq.refl true); (case D => assumption); (case v => exact rfl))
                ((with_reducible refine sp_cons ?_ ?he); (case he => exact rfl))
                ((with_reducible refine' nmQ ?D ?v ?_ ?o ?L); (case L => exact rfl); (case o => exact Eq.refl true); (case D => assumption); (case v => exact rfl))
                ((with_reducible refine sp_cons ?_ ?he); (case he => exact rfl))
                ((with_reducible refine' nmQ ?D ?v ?_ ?o ?L); (case L => exact rfl); (case o => exact Eq.refl true); (case D => assumption); (case v => exact rfl))
                (with_reducible refine sp_nil ?_)
                refine n_list D32 (by simp) ?_
                intro b4 s33 D33
                refine l_neN (qs := [lo, lo, hi, hi]) (lst_is (D33.at 5 rfl)) (lst_is (D33.at 0 rfl)) hev (.cons _ _ (.cons _ _ (.cons _ _ (.cons _ _ .nil)))) (by have := r.un; show A.units + 64 < 9900; first | lia | omega) ?_
                (with_reducible refine wpAny_truthy_bool ?_)
                rw [if_neg (by simp)]
                refine wpAny_allTrue_Or_cons ?_
                ((with_reducible refine wpAny_isTrue_Compare1 ?_ ?hm); (case hm => with_unfolding_all rfl))
                refine wpAny_Call_Name_kw ?_
                refine nmG G D33 g44 ?_
                refine c_fn G F44.2 ?_
                ((with_reducible refine sp_cons ?_ ?he); (case he => exact rfl))
                ((with_reducible refine' nmQ ?D ?v ?_ ?o ?L); (case L => exact rfl); (case o => exact Eq.refl true); (case D => assumption); (case v => exact rfl))
                ((with_reducible refine sp_cons ?_ ?he); (case he => exact rfl))
                ((with_reducible refine' nmQ ?D ?v ?_ ?o ?L); (case L => exact rfl); (case o => exact Eq.refl true); (case D => assumption); (case v => exact rfl))
                (with_reducible refine sp_nil ?_)
                refine ⟨D33.ok, ?_⟩
                refine bisR_int (lo := 0) (hi := ps.length) G D33.ok (r.weak (by decide)) (bR0 (G.In D33.ok)) (lst_is (D33.at 3 rfl)) hzs (by first | decide | assumption | exact a1 ‹_› | exact a2 ‹_› | exact a3 ‹_› (by decide) | exact dl ‹_› | exact ee ‹_› ‹_› | lia | omega) (.inl ⟨rfl, rfl⟩) (Nat.le_refl _) ?_
                intro s34 t34 X34
                have D34 := D33.aft X34
                (with_reducible refine wpAny_BinOp ?_)
                ((with_reducible refine' nmQ ?D ?v ?_ ?o ?L); (case L => exact rfl); (case o => exact Eq.refl true); (case D => assumption); (case v => exact rfl))
                ((with_reducible refine' e_int ?D ?_); (case D => assumption); intro _ _ _)
                refine o_addK (k := ((sp + 1 : Nat) : Int)) (by first | rfl | lia | omega) (by assumption) ?_
                intro s35 t35 D35
                (with_reducible refine o_ne ?_)
                (with_reducible refine wpAny_truthy_bool ?_)
                rw [show bis (fun i => !decide (p < ps.getD i 0)) ps.length 0 ps.length = sp + 1 from q2]
                rw [if_neg (by simp)]
                exact wpAny_allTrue_Or_nil (k9 _ _ ⟨rfl, ((D35.erase 0).erase 0).erase 0⟩)
              · intro _ s31 D31
                refine x_nil ?_
                refine x_assignK ?_
                intro K9 k9
                (with_reducible refine wpAny_BinOp ?_)
                ((with_reducible refine' e_int ?D ?_); (case D => assumption); intro _ _ _)
                (with_reducible refine Subscript_ ?_)
                ((with_reducible refine' nmQ ?D ?v ?_ ?o ?L); (case L => exact rfl); (case o => exact Eq.refl true); (case D => assumption); (case v => exact rfl))
                (with_reducible refine wpAny_BinOp ?_)
                ((with_reducible refine' nmQ ?D ?v ?_ ?o ?L); (case L => exact rfl); (case o => exact Eq.refl true); (case D => assumption); (case v => exact rfl))
                ((with_reducible refine' e_int ?D ?_); (case D => assumption); intro _ _ _)
                refine o_subK (k := ((sp - 1 : Nat) : Int)) (by first | with_reducible exact s16 ‹_› | lia | omega) (by assumption) ?_
                intro s32 t32 D32
                obtain ⟨tq, hq⟩ := hzs.get (getD_some (l := ps) (i := sp - 1) (by first | with_reducible exact t38 ‹_› | lia | omega))
                refine l_item (lst_is (D32.at 0 rfl)) hq (by rw [hzs.len]; first | with_reducible exact a3 ‹_› (by decide) | lia | omega) ?_
                refine o_addK (k := ((256 + ps.getD (sp - 1) 0 : Nat) : Int)) (by first | rfl | lia | omega) (by assumption) ?_
                intro s33 t33 D33
                refine k9 _ _ ?_
                refine stL D33 ?_ rfl rfl
                intro s34 D34
                refine x_nil (w9 _ ⟨t33, ?_⟩)
                have he : symAt tx rs p = 256 + ps.getD (sp - 1) 0 := by
                  unfold symAt
                  rw [hpa, ← hsz, if_neg hnr, ← hps, ← hsp]
                rw [he]
                exact (((Act.pre (l := (cdS ar al x y p tp (256 + ps.getD (sp - 1) 0) t33)) (r := [(Str.ofString "front", .ref f), (Str.ofString "low", .int (lo : Nat) t19), (Str.ofString "high", .int (hi : Nat) t21), (Str.ofString "ends", .ref en), (Str.ofString "places", .ref pl), (Str.ofString "spot", .int (sp : Nat) t29)]) D34).sub (List.drop_sublist 3 _)).know Kept.t0 trivial)
      · have hrun : pc = List.replicate sz (tx.getD p 0) := by simpa using h
        refine x_nil (w9 _ ⟨t11, ?_⟩)
        rw [show symAt tx rs p = tx.getD p 0 by unfold symAt; rw [hpa, ← hsz, if_pos hrun]]
        exact D13
    · rintro s12 ⟨tsy, D12⟩
      refine x_exprK ?_
      intro K9 k9
      refine MethodCall_ ?_
      ((with_reducible refine' nmQ ?D ?v ?_ ?o ?L); (case L => exact rfl); (case o => exact Eq.refl true); (case D => assumption); (case v => exact rfl))
      refine m_list (D12.at 1 rfl) PySem.F.slot_list_append PySem.F.type_list_append ?_
      refine callWith_method1 ?_
      ((with_reducible refine sp_cons ?_ ?he); (case he => exact rfl))
      ((with_reducible refine' nmQ ?D ?v ?_ ?o ?L); (case L => exact rfl); (case o => exact Eq.refl true); (case D => assumption); (case v => exact rfl))
      (with_reducible refine sp_nil ?_)
      refine a_append (by assumption) 1 rfl (by rw [hus.len]; first | lia | omega) ?_
      intro s13 m13 D13
      refine k9 _ _ ?_
      refine ⟨fun a q => (by cases q), ?_⟩
      refine x_exprK ?_
      intro K9 k9
      refine MethodCall_ ?_
      ((with_reducible refine' nmQ ?D ?v ?_ ?o ?L); (case L => exact rfl); (case o => exact Eq.refl true); (case D => assumption); (case v => exact rfl))
      refine m_list (D13.at 0 rfl) PySem.F.slot_list_append PySem.F.type_list_append ?_
      refine callWith_method1 ?_
      ((with_reducible refine sp_cons ?_ ?he); (case he => exact rfl))
      refine nmC ⟨o2', D13.at 3 rfl, d2'⟩ rfl ?_
      (with_reducible refine sp_nil ?_)
      refine a_append (by assumption) 0 rfl (by rw [hvs.len]; first | lia | omega) ?_
      intro s14 m14 D14
      refine k9 _ _ ?_
      refine ⟨fun a q => (by cases q), ?_⟩
      refine x_aug ?_
      refine ldL D14 rfl ?_ rfl rfl
      refine nmC ⟨o2', D14.at 3 rfl, d2'⟩ rfl ?_
      refine o_iaddK (k := ((p + sz : Nat) : Int)) (by first | rfl | lia | omega) (by assumption) ?_
      intro s15 t15 D15
      ((with_reducible refine' stL ?D ?_ ?hk ?hx ?hL); (case hL => exact rfl); (case D => assumption); (case hx => exact rfl); (case hk => exact rfl); intro _ _)
      refine x_nil ?_
      refine z1 _ ?_
      refine ⟨m, by first | decide | assumption | exact a1 ‹_› | exact a2 ‹_› | exact a3 ‹_› (by decide) | exact dl ‹_› | exact ee ‹_› ‹_› | lia | omega, p + sz, _, _, pu ++ [symAt tx rs p], pv ++ [sz], o1, o2', o3', _, _, t15, _, _, by first | with_reducible exact t82 ‹_› ‹_› | lia | omega, by first | decide | assumption | exact a1 ‹_› | exact a2 ‹_› | exact a3 ‹_› (by decide) | exact dl ‹_› | exact ee ‹_› ‹_› | lia | omega, ?_, hus.app (Nats.one _ _), hvs.app (Nats.one _ _), by rw [List.length_append]; simp; first | lia | omega, by rw [List.length_append]; simp; first | lia | omega, d1, d2', d3', Act.pre (r := [(Str.ofString "symbol", .int (symAt tx rs p : Nat) tsy)]) (by assumption)⟩
      rw [← hcw]
      conv => rhs; rewrite [codeW]
      rw [if_pos hlt, ← hsz]
  · have hge : p = tx.length := by have := of_decide_eq_false h; first | lia | omega
    refine x_ret ?_
    refine Tuple_ ?_
    ((with_reducible refine sp_cons ?_ ?he); (case he => exact rfl))
    ((with_reducible refine' nmQ ?D ?v ?_ ?o ?L); (case L => exact rfl); (case o => exact Eq.refl true); (case D => assumption); (case v => exact rfl))
    ((with_reducible refine sp_cons ?_ ?he); (case he => exact rfl))
    ((with_reducible refine' nmQ ?D ?v ?_ ?o ?L); (case L => exact rfl); (case o => exact Eq.refl true); (case D => assumption); (case v => exact rfl))
    (with_reducible refine sp_nil ?_)
    refine n_tup (by assumption) (by simp) ?_
    intro tp' s6 D6
    have hfin : codeW tx rs m p pu pv = (pu, pv) := by
      cases m with
      | zero => rfl
      | succ m => rewrite [codeW]; rw [if_neg (by first | with_reducible exact s19 ‹_› | lia | omega)]
    rw [hfin] at hcw
    refine k s6 tp' x y us vs n1 n2 (D6.got.sub (List.Sublist.cons_cons _ (List.Sublist.cons_cons _ (List.Sublist.cons_cons _ (List.nil_sublist _))))) ?_ ?_
    · rw [← hcw]; exact hus
    · rw [← hcw]; exact hvs
end
theorem turn2_0 (elt t1 i1 t2 i2 : Expr) (ifs : List Expr) (scope : Scope) (pos : Pos) (it acc : Value) (env : Env) :
    compTurn (.ListComp elt [⟨t1, i1, [], 0⟩, ⟨t2, i2, ifs, 0⟩] scope pos) 0 it acc env = (do
      standAt i1.pos
      match ← pyNext it with
      | none => pure (.done .next)
      | some v =>
        letOwnedTupleGo t1 it v
        assign t1 env v
        let x ← eval i2 env
        standAt i2.pos
        let x ← foldedSetIterable i2 env x
        let _ ← runOwn (.compStart (.ListComp elt [⟨t1, i1, [], 0⟩, ⟨t2, i2, ifs, 0⟩] scope pos) 1 (← holding [x] (pyIter x)) acc env) env
        again (.compLoop (.ListComp elt [⟨t1, i1, [], 0⟩, ⟨t2, i2, ifs, 0⟩] scope pos) 0 it acc env)) := by rfl
theorem turn2_1 (elt t1 i1 t2 i2 : Expr) (ifs : List Expr) (scope : Scope) (pos : Pos) (it acc : Value) (env : Env) :
    compTurn (.ListComp elt [⟨t1, i1, [], 0⟩, ⟨t2, i2, ifs, 0⟩] scope pos) 1 it acc env = (do
      standAt i2.pos
      match ← pyNext it with
      | none => pure (.done .next)
      | some v =>
        letOwnedTupleGo t2 it v
        assign t2 env v
        let mut ok := true
        for c in ifs do
          if ok then ok ← isTrue c env (eval c env)
        if ok then
          (do let _ ← call (.builtin "list.append") [acc, ← eval elt env])
        again (.compLoop (.ListComp elt [⟨t1, i1, [], 0⟩, ⟨t2, i2, ifs, 0⟩] scope pos) 1 it acc env)) := by rfl
section
variable {prog : Program} {w : World} {A : Around} {E : Value → Shared → Prop} {R : Result → Shared → Prop} {s : Shared}
theorem start2_1 {elt t1 i1 t2 i2 : Expr} {ifs : List Expr} {scope : Scope} {pos : Pos} {it acc : Value} {env : Env}
    (h0 : codeAny (model prog w) A (.compLoop (.ListComp elt [⟨t1, i1, [], 0⟩, ⟨t2, i2, ifs, 0⟩] scope pos) 1 it acc env) R s)
    (h : wpAny (model prog w) A (pyIter it) (fun it' s' => codeAny (model prog w) A (.compLoop (.ListComp elt [⟨t1, i1, [], 0⟩, ⟨t2, i2, ifs, 0⟩] scope pos) 1 it' acc env) R s')
      (notedBy (model prog w) A env fun x s' => R (.error x) s') s) :
    codeAny (model prog w) A (.compStart (.ListComp elt [⟨t1, i1, [], 0⟩, ⟨t2, i2, ifs, 0⟩] scope pos) 1 it acc env) R s := by
  refine codeAny_of_tree ?_
  show wpAny _ _ ((compStart (.ListComp elt [⟨t1, i1, [], 0⟩, ⟨t2, i2, ifs, 0⟩] scope pos) 1 it acc env).onRaise (fun x => do noteFrame x env; standAt theWindowsPlace)) _ _ s
  refine wpAny_notedAt ?_
  unfold compStart
  show wpAny _ _ (ask >>= _) _ _ s
  refine wpAny_bind (wpAny_askSetting (wpAny_ite ?_))
  split
  · first
      | exact wpAny_bind (wpAny_pure (wpAny_pure (And.intro rfl h0)))
      | exact wpAny_pure (And.intro rfl h0)
  · first
      | exact wpAny_bind (wpAny_rule (wpAny_bind (wpAny_standAt (wpAny_bind (wpAny_mono h (fun it' s' h' => wpAny_pure (And.intro rfl h')) fun _ _ x => x)))))
      | (refine wpAny_bind (wpAny_rule ?_); show wpAny _ _ (standAt i2.pos >>= _) _ _ s; exact wpAny_bind (wpAny_standAt (wpAny_bind (wpAny_mono h (fun it' s' h' => wpAny_pure (And.intro rfl h')) fun _ _ x => x))))
theorem loop2_1 {elt t1 i1 t2 i2 : Expr} {ifs : List Expr} {scope : Scope} {pos : Pos} {it acc : Value} {env : Env} (I : Nat → Shared → Prop)
    (turn : ∀ n s, I n s → wpAny (model prog w) A (pyNext it) (fun r s₁ => match r with
      | none => R (.ok .next) s₁
      | some v => wpAny (model prog w) A (assign t2 env v) (fun _ s₂ =>
          wpAny (model prog w) A (forIn ifs true fun c r => if r = true then do let ok ← isTrue c env (eval c env); pure (ForInStep.yield ok) else pure (ForInStep.yield r)) (fun ok s₃ =>
            if ok = true then wpAny (model prog w) A (eval elt env) (fun x s₄ =>
              wpAny (model prog w) A (call (.builtin "list.append") [acc, x]) (fun _ s₅ => ∃ m, m < n ∧ I m s₅) no s₄) no s₃
            else ∃ m, m < n ∧ I m s₃) no s₂) no s₁) no s)
    (n : Nat) (h : I n s) (ht : ∀ v, letOwnedTupleGo t2 it v = pure () := by intro _; rfl) :
    codeAny (model prog w) A (.compLoop (.ListComp elt [⟨t1, i1, [], 0⟩, ⟨t2, i2, ifs, 0⟩] scope pos) 1 it acc env) R s := by
  refine codeAny_loop rfl I (fun n s hI => ?_) n h
  show wpAny _ A ((compTurn (.ListComp elt [⟨t1, i1, [], 0⟩, ⟨t2, i2, ifs, 0⟩] scope pos) 1 it acc env).onRaise (fun x => do noteFrame x env; theTreesLotGoes x)) _ _ s
  refine wpAny_noted ?_
  rw [turn2_1]
  refine wpAny_bind (wpAny_standAt (wpAny_bind (wpAny_mono (turn n s hI) (fun r s₁ h₁ => ?_) fun _ _ h' => h'.elim)))
  cases r with
  | none => exact wpAny_pure h₁
  | some v =>
    refine wpAny_bind (wpAny_of_eq (ht v) ?_)
    refine wpAny_bind (wpAny_mono h₁ (fun _ s₂ h₂ => wpAny_bind (wpAny_mono h₂ (fun ok s₃ h₃ => ?_) fun _ _ h' => h'.elim)) fun _ _ h' => h'.elim)
    cases ok with
    | false => exact wpAny_pure ⟨rfl, h₃⟩
    | true =>
      exact wpAny_bind (wpAny_bind (wpAny_mono h₃ (fun x s₄ h₄ => wpAny_bind (wpAny_mono h₄ (fun _ s₅ h₅ => wpAny_pure (wpAny_pure ⟨rfl, h₅⟩)) fun _ _ h' => h'.elim)) fun _ _ h' => h'.elim))
theorem loop2_0 {elt t1 i1 t2 i2 : Expr} {ifs : List Expr} {scope : Scope} {pos : Pos} {it acc : Value} {env : Env} (I : Nat → Shared → Prop)
    (turn : ∀ n s, I n s → wpAny (model prog w) A (pyNext it) (fun r s₁ => match r with
      | none => R (.ok .next) s₁
      | some v => wpAny (model prog w) A (assign t1 env v) (fun _ s₂ => wpAny (model prog w) A (eval i2 env) (fun x s₃ => wpAny (model prog w) A (pyIter x) (fun it' s₄ =>
          codeAny (model prog w) (A.mark none) (.compStart (.ListComp elt [⟨t1, i1, [], 0⟩, ⟨t2, i2, ifs, 0⟩] scope pos) 1 it' acc env) (fun r s₅ => match r with
            | .ok _ => ∃ m, m < n ∧ I m s₅
            | .error _ => False) s₄) no s₃) no s₂) no s₁) no s)
    (n : Nat) (h : I n s) (ht : ∀ v, letOwnedTupleGo t1 it v = pure () := by intro _; rfl) (hs : ∀ x, foldedSetIterable i2 env x = pure x := by intro _; rfl) :
    codeAny (model prog w) A (.compLoop (.ListComp elt [⟨t1, i1, [], 0⟩, ⟨t2, i2, ifs, 0⟩] scope pos) 0 it acc env) R s := by
  refine codeAny_loop rfl I (fun n s hI => ?_) n h
  show wpAny _ A ((compTurn (.ListComp elt [⟨t1, i1, [], 0⟩, ⟨t2, i2, ifs, 0⟩] scope pos) 0 it acc env).onRaise (fun x => do noteFrame x env; theTreesLotGoes x)) _ _ s
  refine wpAny_noted ?_
  rw [turn2_0]
  refine wpAny_bind (wpAny_standAt (wpAny_bind (wpAny_mono (turn n s hI) (fun r s₁ h₁ => ?_) fun _ _ h' => h'.elim)))
  cases r with
  | none => exact wpAny_pure h₁
  | some v =>
    refine wpAny_bind (wpAny_of_eq (ht v) ?_)
    refine wpAny_bind (wpAny_mono h₁ (fun _ s₂ h₂ => wpAny_bind (wpAny_mono h₂ (fun x s₃ h₃ => wpAny_bind (wpAny_standAt (wpAny_bind (wpAny_of_eq (hs x) ?_)))) fun _ _ h' => h'.elim)) fun _ _ h' => h'.elim)
    refine wpAny_bind (wpAny_holding (wpAny_mono h₃ (fun it' s₄ h₄ => ?_) fun _ _ h' => h'.elim))
    refine wpAny_bind (wpAny_runOwn (codeAny_mono h₄ fun r s₅ h₅ => ?_))
    cases r with
    | ok f => exact wpAny_pure ⟨rfl, h₅⟩
    | error e => exact h₅.elim
theorem loop2_1W {elt t1 i1 t2 i2 : Expr} {ifs : List Expr} {scope : Scope} {pos : Pos} {it acc : Value} {env : Env} (I : Nat → Shared → Prop)
    (turn : ∀ n s, I n s → ∀ Z : Shared → Prop, (∀ s', (∃ m, m < n ∧ I m s') → Z s') → wpAny (model prog w) A (pyNext it) (fun r s₁ => match r with
      | none => R (.ok .next) s₁
      | some v => wpAny (model prog w) A (assign t2 env v) (fun _ s₂ =>
          wpAny (model prog w) A (forIn ifs true fun c r => if r = true then do let ok ← isTrue c env (eval c env); pure (ForInStep.yield ok) else pure (ForInStep.yield r)) (fun ok s₃ =>
            if ok = true then wpAny (model prog w) A (eval elt env) (fun x s₄ =>
              wpAny (model prog w) A (call (.builtin "list.append") [acc, x]) (fun _ s₅ => Z s₅) no s₄) no s₃
            else Z s₃) no s₂) no s₁) no s)
    (n : Nat) (h : I n s) (ht : ∀ v, letOwnedTupleGo t2 it v = pure () := by intro _; rfl) :
    codeAny (model prog w) A (.compLoop (.ListComp elt [⟨t1, i1, [], 0⟩, ⟨t2, i2, ifs, 0⟩] scope pos) 1 it acc env) R s :=
  loop2_1 I (fun n s hI => turn n s hI _ fun _ h => h) n h ht
theorem loop2_0W {elt t1 i1 t2 i2 : Expr} {ifs : List Expr} {scope : Scope} {pos : Pos} {it acc : Value} {env : Env} (I : Nat → Shared → Prop)
    (turn : ∀ n s, I n s → ∀ Z : Shared → Prop, (∀ s', (∃ m, m < n ∧ I m s') → Z s') → wpAny (model prog w) A (pyNext it) (fun r s₁ => match r with
      | none => R (.ok .next) s₁
      | some v => wpAny (model prog w) A (assign t1 env v) (fun _ s₂ => wpAny (model prog w) A (eval i2 env) (fun x s₃ => wpAny (model prog w) A (pyIter x) (fun it' s₄ =>
          codeAny (model prog w) (A.mark none) (.compStart (.ListComp elt [⟨t1, i1, [], 0⟩, ⟨t2, i2, ifs, 0⟩] scope pos) 1 it' acc env) (fun r s₅ => match r with
            | .ok _ => Z s₅
            | .error _ => False) s₄) no s₃) no s₂) no s₁) no s)
    (n : Nat) (h : I n s) (ht : ∀ v, letOwnedTupleGo t1 it v = pure () := by intro _; rfl) (hs : ∀ x, foldedSetIterable i2 env x = pure x := by intro _; rfl) :
    codeAny (model prog w) A (.compLoop (.ListComp elt [⟨t1, i1, [], 0⟩, ⟨t2, i2, ifs, 0⟩] scope pos) 0 it acc env) R s :=
  loop2_0 I (fun n s hI => turn n s hI _ fun _ h => h) n h ht hs
end
theorem IntsAre.set {xs : List Value} {ns : List Int} (h : IntsAre xs ns) : ∀ (j : Nat) (x : Int) (t : Tok), IntsAre (xs.set j (.int x t)) (ns.set j x) := by
  induction h with
  | nil => intro j x t; exact .nil
  | cons n u h ih =>
    intro j x t
    cases j with
    | zero => exact .cons _ _ h
    | succ j => exact .cons _ _ (ih j x t)
section
variable {w : World} {B : Heap} {A : Around} {s₀ s : Shared} {L : Addr} {l : List (Str × Value)} {N : List (Addr × Obj)} {P : Heap → Prop} {t u v : Tok} {Q : Value → Shared → Prop}
theorem Room.mark {n : Nat} (r : Room n A) : Room n (A.mark none) := ⟨by show (none : Option Value).or A.handled = none; rw [r.hh]; rfl, r.dp, r.un⟩
theorem o_in2 {a : Addr} {i x y : Int} {n : Nat} (ha : s.heap.get? a = some (tup [.int x t, .int y u] n)) (hu : A.units + 64 < cLine) (h : Q (.bool (x == i || y == i)) s) : wpAny (model PR w) A (compareOp .In (.int i v) (.ref a)) Q no s := by
  refine SeqAt.in_tuple_reads (xs := [.int x, .int y]) (d := .int i) (as := []) (bs := []) (Reads.tuple ha rfl rfl (.cons (.int _ _) (.cons (.int _ _) .nil))) (.int _ _) (by rfl) (by rfl) ?_ ?_
  · have : PyData.depth (.int i) = 0 := by rfl
    first | with_reducible exact t23 ‹_› ‹_› | lia | omega
  · have e : ([.int x, .int y] : List PyData).any (fun z => PyData.eqv z (.int i)) = (x == i || y == i) := by
      simp [PyData.eqv]
    rw [e]; exact h
noncomputable def Nums2 (o : Obj) (ns : List Int) : Prop := o.cls = .type "list" ∧ ∃ vs n, o.data = .seq (List.toArray vs) n ∧ IntsAre vs ns
theorem Nums2.soft {o : Obj} {ns : List Int} (h : Nums2 o ns) : ¬ Hard o := let ⟨_, _, _, hd, _⟩ := h; hard_seq hd
theorem Nums2.is {o : Obj} {ns : List Int} (h : Nums2 o ns) {hp : Heap} {a : Addr} (e : hp.get? a = some o) : ∃ vs : List Value, hp.IsList a vs.toArray ∧ IntsAre vs ns :=
  let ⟨c, vs, n, hd, hi⟩ := h; ⟨vs, ⟨o, e, c, n, hd⟩, hi⟩
theorem n2_set {Qu : Unit → Shared → Prop} {a : Addr} {o : Obj} {ns : List Int} {j : Nat} {x y : Int} (D : Act B s₀ L l N P s) (i : Nat) (hi : N[i]? = some (a, o)) (ho : Nums2 o ns) (hx : x = (j : Int)) (hj : j < ns.length) (hz : ns.length ≤ 1000)
    (h : ∀ s' o', Nums2 o' (ns.set j y) → Act B s₀ L l (N.set i (a, o')) P s' → Qu () s') : wpAny (model PR w) A (setItem (.ref a) (.int x t) (.int y u)) Qu no s := by
  obtain ⟨vs, hl, hv⟩ := ho.is (D.at i hi)
  subst hx
  have hvl := IntsAre.length hv
  refine wpAny_setItem_list hl (by first | decide | assumption | exact a1 ‹_› | exact a2 ‹_› | exact a3 ‹_› (by decide) | exact dl ‹_› | exact ee ‹_› ‹_› | lia | omega) (by first | with_reducible exact s61 ‹_› ‹_› | lia | omega) (by rw [List.size_toArray]; first | lia | omega) fun h' hl' hs' => ?_
  obtain ⟨o', e', c', n', d'⟩ := hl'
  refine h _ o' ⟨c', vs.set j (.int y u), n', ?_, IntsAre.set hv j y u⟩ (D.to' (D.hp.turn i hi ho.soft (fun b ob hb e => (hs'.2 b hb).trans e) e'))
  rw [d', Int.toNat_natCast]
  congr 1
  simp
theorem n2_get {a : Addr} {o : Obj} {ns : List Int} {j : Nat} {x y : Int} (ha : s.heap.get? a = some o) (ho : Nums2 o ns) (hx : x = (j : Int)) (hy : ns[j]? = some y) (hz : ns.length ≤ 1000) (h : ∀ u, Q (.int y u) s) : wpAny (model PR w) A (getItem (.ref a) (.int x t)) Q no s := by
  obtain ⟨vs, hl, hv⟩ := ho.is ha
  subst hx
  obtain ⟨u, hu⟩ := IntsAre.get hv j y hy
  have := (List.getElem?_eq_some_iff.mp hy).1
  exact wpAny_getItem_list hl (by first | decide | assumption | exact a1 ‹_› | exact a2 ‹_› | exact a3 ‹_› (by decide) | exact dl ‹_› | exact ee ‹_› ‹_› | lia | omega) (by first | with_reducible exact s61 ‹_› ‹_› | lia | omega) (by rw [Int.toNat_natCast, List.getElem?_toArray]; exact hu) (h u)
theorem n2_item {value slice : Expr} {a : Addr} {o : Obj} {ns : List Int} {j : Nat} {x y : Int} (ha : s.heap.get? a = some o) (ho : Nums2 o ns) (hx : x = (j : Int)) (hy : ns[j]? = some y) (hz : ns.length ≤ 1000) (h : ∀ u, Q (.int y u) s)
    (hs : subscripted slice false (.ref a) (.int x u) = operate [.ref a, .int x u] (getItem (.ref a) (.int x u)) := by with_unfolding_all rfl) (hg : ∀ r, letTemporaryGo value (.ref a) r = pure () := by intro _; with_unfolding_all rfl) :
    wpAny (model PR w) A (subscriptTail value slice (.ref a) (.int x u)) Q no s := by
  obtain ⟨vs, hl, hv⟩ := ho.is ha
  obtain ⟨u', hu⟩ := IntsAre.get hv j y hy
  have h1 := (List.getElem?_eq_some_iff.mp hy).1
  have h2 := IntsAre.length hv
  subst hx
  exact l_item hl hu (by first | with_reducible exact s10 ‹_› ‹_› | lia | omega) (h u') hs hg
theorem x_aug2 {o i value : Expr} {env : Env} {tpos pos : Pos} {op : Operator} {rest : List Stmt} {Q : Flow → Shared → Prop}
    (h : wpAny (model PR w) A (eval o env) (fun ov s₁ => wpAny (model PR w) A (eval i env) (fun iv s₂ => wpAny (model PR w) A (getItem ov iv) (fun old s₃ =>
          wpAny (model PR w) A (eval value env) (fun v s₄ => wpAny (model PR w) A (inplaceOp op old v) (fun new s₅ =>
            wpAny (model PR w) A (setItem ov iv new) (fun _ s₆ => wpAny (model PR w) A (execs rest env) Q no s₆) no s₅) no s₄) no s₃) no s₂) no s₁) no s)
    (hi : ∀ ov iv new, augStore i ov iv new = (do holding [new, ov, iv] (setItem ov iv new); release [new, ov, iv] []; pure .next) := by intros; rfl) :
    wpAny (model PR w) A (execs (.AugAssign (.Subscript o i tpos) op value pos :: rest) env) Q no s :=
  x_cons (wpAny_AugAssign_SubscriptAny h hi)
end
section
variable {w : World} {mg mb : Str → Option Value} {B : Heap} {A : Around} {s₀ s s' : Shared} {R : Result → Shared → Prop} {L a : Addr} {l : List (Str × Value)}
theorem Ok.inCallC2 (O : Ok B s.heap) {m cm : Str → Option Value} {x1 x2 : Str} {v1 v2 : Option Value} {s₁ : Shared} {cs : List (Str × Addr)} (X : InCallC s s.heap.objs.size m cs cm s₁)
    (h1 : cs.lookup x1 = some (s.heap.objs.size + 1)) (h2 : cs.lookup x2 = some (s.heap.objs.size + 1 + 1)) (k1 : cm x1 = v1) (k2 : cm x2 = v2) (hm : ∀ y, m y = l.lookup y) :
    ∃ o1 o2, o1.data = .cell v1 ∧ o2.data = .cell v2 ∧ Act B s s.heap.objs.size l [(s.heap.objs.size + 1 + 1, o2), (s.heap.objs.size + 1, o1)] T0 s₁ := by
  have D := O.inCall X.toInCall hm
  obtain ⟨o1, e1, d1⟩ := X.cell _ _ h1
  obtain ⟨o2, e2, d2⟩ := X.cell _ _ h2
  subst k1 k2
  have H1 := D.hp.more (a := s.heap.objs.size + 1) ⟨Nat.le_succ _, Nat.succ_ne_self _⟩ (fun _ hp => nomatch hp) e1
  have H2 := H1.more (a := s.heap.objs.size + 1 + 1) ⟨Nat.le_trans (Nat.le_succ _) (Nat.le_succ _), Nat.ne_of_gt (Nat.lt_succ_of_lt (Nat.lt_succ_self _))⟩ (fun p hp => by rw [List.mem_singleton.mp hp]; exact Nat.lt_succ_self _) e2
  exact ⟨o1, o2, d1, d2, H2, D.like⟩
end
noncomputable def F131 : {fd : FuncData // FnIs 131 fd} := ⟨_, fun _ => rfl⟩
theorem g131 {w : World} : nsIn (KK w) mainGlobals (Str.ofString "law") = some (some (.ref 131)) := by kernel_rfl
theorem cd131 {w : World} : codeIn (KK w) F131.1.code F131.1.qualname = true := by kernel_rfl
noncomputable def lawBody : List Stmt := match F131.1.body with | .stmts b => b | _ => []
noncomputable abbrev lawEnv (L : Addr) : Env := fenvC F131.1 131 L
theorem two_set (c0 c1 y : Int) {j : Nat} (hj : j < 2) : ∃ a b, [c0, c1].set j y = [a, b] := by
  match j, hj with
  | 0, _ => exact ⟨y, c1, rfl⟩
  | 1, _ => exact ⟨c0, y, rfl⟩
theorem two_get (c0 c1 : Int) {j : Nat} (hj : j < 2) : ∃ y, [c0, c1][j]? = some y := ⟨_, List.getElem?_eq_getElem hj⟩
noncomputable abbrev nD (s : Shared) (gs : Addr) (sy : Addr) (ta : Addr) (vs : List Value) (us : List Value) (tv : List Value) (m : Nat) (n : Nat) (nT : Nat) (o2 : Obj) : List (Addr × Obj) := [(gs, lst vs m), (sy, lst us n), (ta, lst tv nT), (s.heap.objs.size + 1 + 1, o2)]
noncomputable abbrev nE (s : Shared) (rc he la : Addr) (rs hs ls : List Value) (n3 n2 n1 : Nat) (gs sy ta : Addr) (vs us tv : List Value) (m n nT : Nat) (o2 : Obj) : List (Addr × Obj) := (rc, lst rs n3) :: (he, lst hs n2) :: (la, lst ls n1) :: nD s gs sy ta vs us tv m n nT o2
noncomputable abbrev nF (s : Shared) (rc la : Addr) (rs ls : List Value) (n3 n1 : Nat) (gs sy ta : Addr) (vs us tv : List Value) (m n nT : Nat) (o2 : Obj) : List (Addr × Obj) := (rc, lst rs n3) :: (la, lst ls n1) :: nD s gs sy ta vs us tv m n nT o2
noncomputable abbrev nG (s : Shared) (sp cd : Addr) (zv cv : List Value) (nz nc : Nat) (gs sy ta : Addr) (vs us tv : List Value) (m n nT : Nat) (o2 : Obj) : List (Addr × Obj) := (sp, lst zv nz) :: (cd, lst cv nc) :: nD s gs sy ta vs us tv m n nT o2
noncomputable abbrev l7 (al : Addr) (sa : Addr) (ta : Addr) (ra : Addr) (sy : Addr) (gs : Addr) (wy : Value) : List (Str × Value) := [(Str.ofString "script", .ref al), (Str.ofString "sizes", .ref sa), (Str.ofString "way", wy), (Str.ofString "tail", .ref ta), (Str.ofString "ruler", .ref ra), (Str.ofString "symbols", .ref sy), (Str.ofString "signs", .ref gs)]
noncomputable abbrev l3 (al : Addr) (sa : Addr) (wy : Value) : List (Str × Value) := [(Str.ofString "script", .ref al), (Str.ofString "sizes", .ref sa), (Str.ofString "way", wy)]
noncomputable abbrev l5 (al : Addr) (sa : Addr) (ta : Addr) (ra : Addr) (wy : Value) : List (Str × Value) := [(Str.ofString "script", .ref al), (Str.ofString "sizes", .ref sa), (Str.ofString "way", wy), (Str.ofString "tail", .ref ta), (Str.ofString "ruler", .ref ra)]
noncomputable abbrev laN (s : Shared) (cl : Addr) (oc : Obj) (o1 : Obj) (o2 : Obj) : List (Addr × Obj) := [(cl, oc), (s.heap.objs.size + 1 + 1, o2), (s.heap.objs.size + 1, o1)]
noncomputable abbrev xN (s : Shared) (x0 : Addr × Obj) (x1 : Addr × Obj) (x2 : Addr × Obj) (cl : Addr) (oc : Obj) (o1 : Obj) (o2 : Obj) : List (Addr × Obj) := [x0, x1, x2, (cl, oc), (s.heap.objs.size + 1 + 1, o2), (s.heap.objs.size + 1, o1)]
section
variable {w : World} {mg mb : Str → Option Value} {B : Heap} {A : Around} {s₀ s : Shared} {Q : Flow → Shared → Prop} {al : Addr} {xs : List Value} {is : List Int} {o1 o2 : Obj}
theorem law_a (G : Gnd w mg mb B) (O : Ok B s₀.heap) (r : Room 7 A) (ha : s₀.heap.IsList al xs.toArray) (hi : IntsAre xs is) (hlen : is.length ≤ 63)
    (d1 : o1.data = .cell none) (d2 : o2.data = .cell none) (D : Act B s₀ s₀.heap.objs.size [(Str.ofString "script", .ref al)] [(s₀.heap.objs.size + 1 + 1, o2), (s₀.heap.objs.size + 1, o1)] T0 s)
    (k : ∀ s' c0 c1 o1 o2 cl oc, o1.data = .cell (some (.ref cl)) → o2.data = .cell none → Nums2 oc [c0, c1] → Act B s₀ s₀.heap.objs.size [(Str.ofString "script", .ref al)] (laN s₀ cl oc o1 o2) T0 s' →
      wpAny (model PR w) A (execs (lawBody.drop 2) (lawEnv s₀.heap.objs.size)) Q no s') :
    wpAny (model PR w) A (execs lawBody (lawEnv s₀.heap.objs.size)) Q no s := by
  have hxl := IntsAre.length hi
  refine x_assignK ?_
  intro K9 k9
  refine List_ ?_
  ((with_reducible refine sp_cons ?_ ?he); (case he => exact rfl))
  ((with_reducible refine' e_int ?D ?_); (case D => assumption); intro _ _ _)
  ((with_reducible refine sp_cons ?_ ?he); (case he => exact rfl))
  ((with_reducible refine' e_int ?D ?_); (case D => assumption); intro _ _ _)
  (with_reducible refine sp_nil ?_)
  refine n_list (by assumption) (by simp) ?_
  intro cl s2 D2
  refine k9 _ _ ?_
  refine stC D2 2 rfl d1 ?_
  intro s3 o1' d1' D3
  refine x_forW (fun I n s' => ∃ k o oc c0 c1, n = is.length - k ∧ k ≤ is.length ∧ RI 0 1 is.length k o ∧ Nums2 oc [c0, c1] ∧ Act B s₀ s₀.heap.objs.size [(Str.ofString "script", .ref al)] ((I, o) :: laN s₀ cl oc o1' o2) T0 s') ?_ ?_
  · intro K9 k9
    (((with_reducible refine' fn_B boot_range ?G ?D b_range ?_ ?hs ?hc); (case hc => exact .inr ⟨_, rfl⟩)); (case hs => (repeat' apply And.intro) <;> exact rfl); (case G => assumption); (case D => assumption))
    ((with_reducible refine sp_cons ?_ ?he); (case he => exact rfl))
    (((with_reducible refine' fn_B boot_len' ?G ?D b_len ?_ ?hs ?hc); (case hc => exact .inl ⟨_, rfl⟩)); (case hs => (repeat' apply And.intro) <;> exact rfl); (case G => assumption); (case D => assumption))
    ((with_reducible refine sp_cons ?_ ?he); (case he => exact rfl))
    ((with_reducible refine' nmQ ?D ?v ?_ ?o ?L); (case L => exact rfl); (case o => exact Eq.refl true); (case D => assumption); (case v => exact rfl))
    (with_reducible refine sp_nil ?_)
    refine l_len D3 (Heap.IsList.ext ha O.tab D3.ext) (by first | with_reducible exact Nat.le_trans (s10 ‹_ = _› ‹_›) (by decide) | lia | omega) ?_
    intro s4 t4 D4
    (with_reducible refine sp_nil ?_)
    rw [hxl]
    refine r_1 (by assumption) ?_
    intro rr s5 t u v D5 hr
    refine i_r1 D5 hr (by first | decide | assumption | exact a1 ‹_› | exact a2 ‹_› | exact a3 ‹_› (by decide) | exact dl ‹_› | exact ee ‹_› ‹_› | lia | omega) ?_
    intro I o s6 ho D6
    exact k9 _ _ ⟨I, _, rfl, 0, o, _, _, _, rfl, Nat.zero_le _, ho, ⟨rfl, _, _, rfl, .cons _ _ (.cons _ _ .nil)⟩, D6⟩
  · rintro I n s4 ⟨j, o, oc, c0, c1, rfl, hj, ho, hoc, D4⟩
    intro W1 z1 r1
    by_cases hlt : j < is.length
    · refine (It.range r.hh 0 1 is.length).step D4 0 rfl ho trivial hlt ?_
      rintro v s5 o' ⟨tv, rfl⟩ ho' D5
      have e1 : (0 : Int) + (j : Int) * 1 = (j : Int) := by first | decide | assumption | exact a1 ‹_› | exact a2 ‹_› | exact a3 ‹_› (by decide) | exact dl ‹_› | exact ee ‹_› ‹_› | lia | omega
      rw [e1]
      clear e1
      ((with_reducible refine' stL ?D ?_ ?hk ?hx ?hL); (case hL => exact rfl); (case D => assumption); (case hx => exact rfl); (case hk => exact rfl); intro _ _)
      refine x_aug2 ?_
      refine nmC ⟨o1', Act.at (by assumption) 3 rfl, d1'⟩ rfl ?_
      (with_reducible refine wpAny_BinOp ?_)
      ((with_reducible refine' nmQ ?D ?v ?_ ?o ?L); (case L => exact rfl); (case o => exact Eq.refl true); (case D => assumption); (case v => exact rfl))
      ((with_reducible refine' e_int ?D ?_); (case D => assumption); intro _ _ _)
      refine o_modN (a := j) (b := 2) (by rfl) (by rfl) (by decide) (by assumption) ?_
      intro s6 t6 D6
      have hm : j % 2 < 2 := Nat.mod_lt _ (by decide)
      obtain ⟨y, hy⟩ := two_get c0 c1 hm
      refine n2_get (j := j % 2) (D6.at 1 rfl) hoc rfl hy (by simp) ?_
      intro u6
      (with_reducible refine Subscript_ ?_)
      ((with_reducible refine' nmQ ?D ?v ?_ ?o ?L); (case L => exact rfl); (case o => exact Eq.refl true); (case D => assumption); (case v => exact rfl))
      ((with_reducible refine' nmQ ?D ?v ?_ ?o ?L); (case L => exact rfl); (case o => exact Eq.refl true); (case D => assumption); (case v => exact rfl))
      obtain ⟨tz, hz⟩ := IntsAre.get hi j _ (List.getElem?_eq_getElem hlt)
      refine l_item (Heap.IsList.ext ha O.tab D6.ext) hz (by first | with_reducible exact Nat.le_trans (s10 ‹_ = _› ‹_›) (by decide) | lia | omega) ?_
      refine o_iaddK rfl (by assumption) ?_
      intro s7 t7 D7
      refine n2_set (j := j % 2) D7 1 rfl hoc rfl hm (by simp) ?_
      intro s8 oc' hoc' D8
      obtain ⟨a, b, e⟩ := two_set c0 c1 (y + is[j]) hm
      rw [e] at hoc'
      refine x_nil ?_
      refine z1 _ ?_
      exact ⟨is.length - (j + 1), by first | decide | assumption | exact a1 ‹_› | exact a2 ‹_› | exact a3 ‹_› (by decide) | exact dl ‹_› | exact ee ‹_› ‹_› | lia | omega, j + 1, o', oc', a, b, rfl, by first | decide | assumption | exact a1 ‹_› | exact a2 ‹_› | exact a3 ‹_› (by decide) | exact dl ‹_› | exact ee ‹_› ‹_› | lia | omega, ho', hoc', Act.pre (r := [(Str.ofString "k", .int (j : Nat) tv)]) D8⟩
    · have hje : j = is.length := by first | decide | assumption | exact a1 ‹_› | exact a2 ‹_› | exact a3 ‹_› (by decide) | exact dl ‹_› | exact ee ‹_› ‹_› | lia | omega
      subst hje
      refine (It.range r.hh 0 1 is.length).end D4 0 rfl ho trivial ?_
      intro s5 D5
      exact k s5 c0 c1 o1' o2 cl oc d1' d2 hoc D5
end
theorem wp_via {w : World} {A : Around} {s : Shared} {m : Sem Value} {Q : Value → Shared → Prop} (P : Value → Shared → Prop) (h : wpAny (model PR w) A m P no s) (k : ∀ v s', P v s' → Q v s') : wpAny (model PR w) A m Q no s := wpAny_mono h k fun _ _ x => x
theorem last_one {l : List Nat} (h : 1 ≤ l.length) : l.drop (l.length - 1) = [l.getD (l.length - 1) 0] := by
  rw [List.drop_eq_getElem_cons (by first | decide | assumption | exact a1 ‹_› | exact a2 ‹_› | exact a3 ‹_› (by decide) | exact dl ‹_› | exact ee ‹_› ‹_› | lia | omega), List.drop_eq_nil_of_le (by first | decide | assumption | exact a1 ‹_› | exact a2 ‹_› | exact a3 ‹_› (by decide) | exact dl ‹_› | exact ee ‹_› ‹_› | lia | omega), List.getD_eq_getElem?_getD, List.getElem?_eq_getElem (by first | decide | assumption | exact a1 ‹_› | exact a2 ‹_› | exact a3 ‹_› (by decide) | exact dl ‹_› | exact ee ‹_› ‹_› | lia | omega)]; rfl
theorem twoB_is (c0 : Int) : ((1 : Int) == ((wayOf c0 : Nat) : Int) || (2 : Int) == ((wayOf c0 : Nat) : Int)) = twoB c0 := by
  unfold twoB
  have := way_lt c0
  generalize wayOf c0 = x at *
  match x, this with
  | 0, _ => rfl
  | 1, _ => rfl
  | 2, _ => rfl
  | 3, _ => rfl
  | 4, _ => rfl
section
variable {w : World} {mg mb : Str → Option Value} {B : Heap} {A : Around} {s₀ s : Shared} {Q : Flow → Shared → Prop} {al cl : Addr} {c0 c1 : Int} {o1 o2 oc : Obj}
theorem law_b (G : Gnd w mg mb B) (O : Ok B s₀.heap) (r : Room 7 A) (d1 : o1.data = .cell (some (.ref cl))) (hoc : Nums2 oc [c0, c1])
    (D : Act B s₀ s₀.heap.objs.size [(Str.ofString "script", .ref al)] (laN s₀ cl oc o1 o2) T0 s)
    (k : ∀ s' x0 x1 x2 sa sv nS ra rv nR ta tv nT tw, Nats sv (sizesOf c0) → Nats rv (rulerOf c0) → Nats tv (tailOf c0) → (sa, lst sv nS) ∈ [x0, x1, x2] → (ra, lst rv nR) ∈ [x0, x1, x2] → (ta, lst tv nT) ∈ [x0, x1, x2] →
      Act B s₀ s₀.heap.objs.size (l5 al sa ta ra (.int (wayOf c0 : Nat) tw)) (xN s₀ x0 x1 x2 cl oc o1 o2) T0 s' →
      wpAny (model PR w) A (execs (lawBody.drop 7) (lawEnv s₀.heap.objs.size)) Q no s') :
    wpAny (model PR w) A (execs (lawBody.drop 2) (lawEnv s₀.heap.objs.size)) Q no s := by
  refine x_assign_comp ?_
  (((with_reducible refine' fn_B boot_range ?G ?D b_range ?_ ?hs ?hc); (case hc => exact .inr ⟨_, rfl⟩)); (case hs => (repeat' apply And.intro) <;> exact rfl); (case G => assumption); (case D => assumption))
  ((with_reducible refine sp_cons ?_ ?he); (case he => exact rfl))
  ((with_reducible refine' e_int ?D ?_); (case D => assumption); intro _ _ _)
  (with_reducible refine sp_nil ?_)
  refine r_1 (by assumption) ?_
  intro rr s2 tr ur vr D2 hr
  refine comp_r1E (n := 5) D2 r.hh hr (by decide) (fun i ys => i ≤ 5 ∧ Nats ys ((List.range i).map fun k => 1 + figN c0 (2 + k) % 3)) ⟨by decide, .nil⟩ (fun i ys h => by rw [h.2.len, List.length_map, List.length_range]; first | with_reducible exact a3 ‹_ ∧ _›.1 (by decide) | lia | omega) ?_ ?_
  · intro i ti oi ys m s3 hi hF D3 K7 k7
    (with_reducible refine wpAny_BinOp ?_)
    ((with_reducible refine' e_int ?D ?_); (case D => assumption); intro _ _ _)
    (with_reducible refine wpAny_BinOp ?_)
    ((with_reducible refine' fn_Q ?G ?D g83 F83.2 ?_ ?hs ?he); (case hs => exact Eq.refl true); (case he => exact rfl); (case G => assumption); (case D => assumption))
    ((with_reducible refine sp_cons ?_ ?he); (case he => exact rfl))
    (with_reducible refine Subscript_ ?_)
    refine nmC ⟨o1, D2.thru (by assumption) 2 rfl, d1⟩ rfl ?_
    ((with_reducible refine' e_int ?D ?_); (case D => assumption); intro _ _ _)
    refine n2_item (j := 0) (D2.thru (by assumption) 0 rfl) hoc rfl rfl (by simp) ?_
    intro u4
    ((with_reducible refine sp_cons ?_ ?he); (case he => exact rfl))
    (with_reducible refine wpAny_BinOp ?_)
    ((with_reducible refine' e_int ?D ?_); (case D => assumption); intro _ _ _)
    ((with_reducible refine' nmQ ?D ?v ?_ ?o ?L); (case L => exact rfl); (case o => exact Eq.refl true); (case D => assumption); (case v => exact rfl))
    refine o_addK (k := ((2 + i : Nat) : Int)) (by first | rfl | lia | omega) (by assumption) ?_
    intro s5 t5 D5
    (with_reducible refine sp_nil ?_)
    refine ⟨D5.ok, ?_⟩
    refine figure_spec G D5.ok (r.weak (by decide)) c0 (2 + i) (by first | decide | assumption | exact a1 ‹_› | exact a2 ‹_› | exact a3 ‹_› (by decide) | exact dl ‹_› | exact ee ‹_› ‹_› | lia | omega) ?_
    intro s6 t6 X6
    have D6 := D5.aft X6
    ((with_reducible refine' e_int ?D ?_); (case D => assumption); intro _ _ _)
    refine o_modN (a := figN c0 (2 + i)) (b := 3) (figN_is _ _).1 (by rfl) (by decide) (by assumption) ?_
    intro s7 t7 D7
    refine o_addK (k := ((1 + figN c0 (2 + i) % 3 : Nat) : Int)) (by first | rfl | lia | omega) (by assumption) ?_
    intro s8 t8 D8
    refine k7 _ _ D8 ⟨by first | decide | assumption | exact a1 ‹_› | exact a2 ‹_› | exact a3 ‹_› (by decide) | exact dl ‹_› | exact ee ‹_› ‹_› | lia | omega, ?_⟩
    rw [List.range_succ, List.map_append]
    exact hF.2.app (Nats.one _ _)
  intro zs mz s3 hF D3
  refine comp_some D2 D3 ?_ rfl rfl rfl
  intro s4 D4
  obtain ⟨sa, hsa⟩ : ∃ sa, sa = s2.heap.objs.size + 1 := ⟨_, rfl⟩
  rw [← hsa] at D4
  have hzs : Nats zs (drawnZ c0) := hF.2
  have hzl := hzs.len
  rw [drawnZ_len] at hzl
  have D4 : Act B s₀ s₀.heap.objs.size [(Str.ofString "script", .ref al), (Str.ofString "sizes", .ref sa)] ((sa, lst zs mz) :: laN s₀ cl oc o1 o2) T0 s4 := D4
  clear D3 D2 D hF hsa
  refine x_assignK ?_
  intro K9 k9
  (with_reducible refine wpAny_BinOp ?_)
  ((with_reducible refine' fn_Q ?G ?D g83 F83.2 ?_ ?hs ?he); (case hs => exact Eq.refl true); (case he => exact rfl); (case G => assumption); (case D => assumption))
  ((with_reducible refine sp_cons ?_ ?he); (case he => exact rfl))
  (with_reducible refine Subscript_ ?_)
  refine nmC ⟨o1, D4.at 3 rfl, d1⟩ rfl ?_
  ((with_reducible refine' e_int ?D ?_); (case D => assumption); intro _ _ _)
  refine n2_item (j := 0) (Act.at (by assumption) 1 rfl) hoc rfl rfl (by simp) ?_
  intro u5
  ((with_reducible refine sp_cons ?_ ?he); (case he => exact rfl))
  ((with_reducible refine' e_int ?D ?_); (case D => assumption); intro _ _ _)
  (with_reducible refine sp_nil ?_)
  refine ⟨Act.ok (by assumption), ?_⟩
  refine figure_spec G (Act.ok (by assumption)) (r.weak (by decide)) c0 1 (by first | decide | assumption | exact a1 ‹_› | exact a2 ‹_› | exact a3 ‹_› (by decide) | exact dl ‹_› | exact ee ‹_› ‹_› | lia | omega) ?_
  intro s6 t6 X6
  have D6 := Act.aft (by assumption) X6
  ((with_reducible refine' e_int ?D ?_); (case D => assumption); intro _ _ _)
  refine o_modN (a := figN c0 1) (b := 5) (figN_is _ _).1 (by rfl) (by decide) (by assumption) ?_
  intro s7 t7 D7
  refine k9 _ _ ?_
  refine stL D7 ?_ rfl rfl
  intro s8 D8
  have D8 : Act B s₀ s₀.heap.objs.size (l3 al sa (.int (wayOf c0 : Nat) t7)) ((sa, lst zs mz) :: laN s₀ cl oc o1 o2) T0 s8 := D8
  clear D7 D6 D4
  refine x_assignK ?_
  intro K9 k9
  with_reducible refine wp_via (fun v s' => ∃ ta tv nT, v = .ref ta ∧ Nats tv (tailOf c0) ∧ Act B s₀ s₀.heap.objs.size (l3 al sa (.int (wayOf c0 : Nat) t7)) ((ta, lst tv nT) :: (sa, lst zs mz) :: laN s₀ cl oc o1 o2) T0 s') ?_ ?_
  · (with_reducible refine Subscript_ ?_)
    refine Tuple_ ?_
    ((with_reducible refine sp_cons ?_ ?he); (case he => exact rfl))
    refine List_ ?_
    (with_reducible refine sp_nil ?_)
    refine n_list D8 (by simp) ?_
    intro e0 s9 D9
    ((with_reducible refine sp_cons ?_ ?he); (case he => exact rfl))
    refine List_ ?_
    ((with_reducible refine sp_cons ?_ ?he); (case he => exact rfl))
    ((with_reducible refine' e_int ?D ?_); (case D => assumption); intro _ _ _)
    (with_reducible refine sp_nil ?_)
    refine n_list (by assumption) (by simp) ?_
    intro e1 s10 D10
    ((with_reducible refine sp_cons ?_ ?he); (case he => exact rfl))
    refine List_ ?_
    ((with_reducible refine sp_cons ?_ ?he); (case he => exact rfl))
    ((with_reducible refine' e_int ?D ?_); (case D => assumption); intro _ _ _)
    ((with_reducible refine sp_cons ?_ ?he); (case he => exact rfl))
    ((with_reducible refine' e_int ?D ?_); (case D => assumption); intro _ _ _)
    (with_reducible refine sp_nil ?_)
    refine n_list (by assumption) (by simp) ?_
    intro e2 s11 D11
    ((with_reducible refine sp_cons ?_ ?he); (case he => exact rfl))
    refine List_ ?_
    ((with_reducible refine sp_cons ?_ ?he); (case he => exact rfl))
    ((with_reducible refine' e_int ?D ?_); (case D => assumption); intro _ _ _)
    (with_reducible refine sp_nil ?_)
    refine n_list (by assumption) (by simp) ?_
    intro e3 s12 D12
    ((with_reducible refine sp_cons ?_ ?he); (case he => exact rfl))
    refine List_ ?_
    ((with_reducible refine sp_cons ?_ ?he); (case he => exact rfl))
    ((with_reducible refine' e_int ?D ?_); (case D => assumption); intro _ _ _)
    ((with_reducible refine sp_cons ?_ ?he); (case he => exact rfl))
    ((with_reducible refine' e_int ?D ?_); (case D => assumption); intro _ _ _)
    (with_reducible refine sp_nil ?_)
    refine n_list (by assumption) (by simp) ?_
    intro e4 s13 D13
    (with_reducible refine sp_nil ?_)
    refine n_tup D13 (by simp) ?_
    intro tp s14 D14
    ((with_reducible refine' nmQ ?D ?v ?_ ?o ?L); (case L => exact rfl); (case o => exact Eq.refl true); (case D => assumption); (case v => exact rfl))
    refine sub_any ?_
    clear D13 D12 D11 D10 D9 D8
    have hw := way_lt c0
    unfold tailOf
    generalize wayOf c0 = x at *
    obtain h | h | h | h | h : x = 0 ∨ x = 1 ∨ x = 2 ∨ x = 3 ∨ x = 4 := by first | with_reducible exact s55 ‹_› | lia | omega
    · subst h
      exact u_item (i := 0) (D14.at 0 rfl) rfl (by decide) ⟨e0, _, _, rfl, .nil, (((((D14.erase 0).erase 0).erase 0).erase 0).erase 0)⟩
    · subst h
      exact u_item (i := 1) (D14.at 0 rfl) rfl (by decide) ⟨e1, _, _, rfl, Nats.one 0 _, (((((D14.erase 0).erase 0).erase 0).erase 0).erase 1)⟩
    · subst h
      exact u_item (i := 2) (D14.at 0 rfl) rfl (by decide) ⟨e2, _, _, rfl, (Nats.one 0 _).app (Nats.one 9 _), (((((D14.erase 0).erase 0).erase 0).erase 1).erase 1)⟩
    · subst h
      exact u_item (i := 3) (D14.at 0 rfl) rfl (by decide) ⟨e3, _, _, rfl, Nats.one 127 _, (((((D14.erase 0).erase 0).erase 1).erase 1).erase 1)⟩
    · subst h
      exact u_item (i := 4) (D14.at 0 rfl) rfl (by decide) ⟨e4, _, _, rfl, (Nats.one 127 _).app (Nats.one 4 _), (((((D14.erase 0).erase 1).erase 1).erase 1).erase 1)⟩
  rintro v s9 ⟨ta, tv, nT, rfl, htv, D9⟩
  have htl := tail_len c0
  have htvl := htv.len
  refine k9 _ _ ?_
  ((with_reducible refine' stL ?D ?_ ?hk ?hx ?hL); (case hL => exact rfl); (case D => assumption); (case hx => exact rfl); (case hk => exact rfl); intro _ _)
  refine x_assignK ?_
  intro K9 k9
  (with_reducible refine wpAny_BinOp ?_)
  ((with_reducible refine' nmQ ?D ?v ?_ ?o ?L); (case L => exact rfl); (case o => exact Eq.refl true); (case D => assumption); (case v => exact rfl))
  ((with_reducible refine' nmQ ?D ?v ?_ ?o ?L); (case L => exact rfl); (case o => exact Eq.refl true); (case D => assumption); (case v => exact rfl))
  refine l_add (by assumption) (Act.at (by assumption) 1 rfl) (Act.at (by assumption) 0 rfl) (by first | decide | assumption | exact a1 ‹_› | exact a2 ‹_› | exact a3 ‹_› (by decide) | exact dl ‹_› | exact ee ‹_› ‹_› | lia | omega) (by first | with_reducible exact Nat.le_trans (s10 ‹_ = _› ‹_›) (by decide) | lia | omega) ?_
  intro ra s11 D11
  refine k9 _ _ ?_
  refine stL D11 ?_ rfl rfl
  intro s12 D12
  clear D11 D9 D8
  have D12 : Act B s₀ s₀.heap.objs.size (l5 al sa ta ra (.int (wayOf c0 : Nat) t7)) ((ra, lst (zs ++ tv) 0) :: (ta, lst tv nT) :: (sa, lst zs mz) :: laN s₀ cl oc o1 o2) T0 s12 := D12
  refine x_if_toW (fun s' => ∃ x0 x1 x2 sa sv nS ra rv nR, Nats sv (sizesOf c0) ∧ Nats rv (rulerOf c0) ∧ (sa, lst sv nS) ∈ [x0, x1, x2] ∧ (ra, lst rv nR) ∈ [x0, x1, x2] ∧ (ta, lst tv nT) ∈ [x0, x1, x2] ∧
      Act B s₀ s₀.heap.objs.size (l5 al sa ta ra (.int (wayOf c0 : Nat) t7)) (xN s₀ x0 x1 x2 cl oc o1 o2) T0 s') ?_ ?_
  · intro K9 W9 w9 k9
    ((with_reducible refine wpAny_isTrue_Compare1 ?_ ?hm); (case hm => with_unfolding_all rfl))
    ((with_reducible refine' nmQ ?D ?v ?_ ?o ?L); (case L => exact rfl); (case o => exact Eq.refl true); (case D => assumption); (case v => exact rfl))
    refine Tuple_ ?_
    ((with_reducible refine sp_cons ?_ ?he); (case he => exact rfl))
    ((with_reducible refine' e_int ?D ?_); (case D => assumption); intro _ _ _)
    ((with_reducible refine sp_cons ?_ ?he); (case he => exact rfl))
    ((with_reducible refine' e_int ?D ?_); (case D => assumption); intro _ _ _)
    (with_reducible refine sp_nil ?_)
    refine n_tup (by assumption) (by simp) ?_
    intro tp s13 D13
    refine o_in2 (D13.at 0 rfl) (by have := r.un; show A.units + 64 < 9900; first | with_reducible exact s56 ‹_› | lia | omega) ?_
    rw [twoB_is]
    (with_reducible refine wpAny_truthy_bool ?_)
    have D13 : Act B s₀ s₀.heap.objs.size (l5 al sa ta ra (.int (wayOf c0 : Nat) t7)) ((ra, lst (zs ++ tv) 0) :: (ta, lst tv nT) :: (sa, lst zs mz) :: laN s₀ cl oc o1 o2) T0 s13 := D13.erase 0
    refine k9 _ _ ?_
    refine ⟨fun h => ?_, fun h => ?_⟩
    · obtain ⟨m, hm⟩ : ∃ m, m = 1 + figN c0 0 % 5 := ⟨_, rfl⟩
      have hsh : Nats (zs.take m) (shownOf c0) := by rw [hm]; exact hzs.take _
      have hsl := shown_len c0
      have hshl := hsh.len
      refine x_assignK ?_
      intro K9 k9
      (with_reducible refine Subscript_ ?_)
      ((with_reducible refine' nmQ ?D ?v ?_ ?o ?L); (case L => exact rfl); (case o => exact Eq.refl true); (case D => assumption); (case v => exact rfl))
      refine wpAny_Slice ?_
      refine evalPart_none_step ?_
      refine evalPart_some_step ?_
      (with_reducible refine wpAny_BinOp ?_)
      ((with_reducible refine' e_int ?D ?_); (case D => assumption); intro _ _ _)
      (with_reducible refine wpAny_BinOp ?_)
      ((with_reducible refine' fn_Q ?G ?D g83 F83.2 ?_ ?hs ?he); (case hs => exact Eq.refl true); (case he => exact rfl); (case G => assumption); (case D => assumption))
      ((with_reducible refine sp_cons ?_ ?he); (case he => exact rfl))
      (with_reducible refine Subscript_ ?_)
      refine nmC ⟨o1, Act.at (by assumption) 5 rfl, d1⟩ rfl ?_
      ((with_reducible refine' e_int ?D ?_); (case D => assumption); intro _ _ _)
      refine n2_item (j := 0) (Act.at (by assumption) 3 rfl) hoc rfl rfl (by simp) ?_
      intro u14
      ((with_reducible refine sp_cons ?_ ?he); (case he => exact rfl))
      ((with_reducible refine' e_int ?D ?_); (case D => assumption); intro _ _ _)
      (with_reducible refine sp_nil ?_)
      refine ⟨Act.ok (by assumption), ?_⟩
      refine figure_spec G (Act.ok (by assumption)) (r.weak (by decide)) c0 0 (by first | decide | assumption | exact a1 ‹_› | exact a2 ‹_› | exact a3 ‹_› (by decide) | exact dl ‹_› | exact ee ‹_› ‹_› | lia | omega) ?_
      intro s15 t15 X15
      have D15 := Act.aft (by assumption) X15
      ((with_reducible refine' e_int ?D ?_); (case D => assumption); intro _ _ _)
      refine o_modN (a := figN c0 0) (b := 5) (figN_is _ _).1 (by rfl) (by decide) (by assumption) ?_
      intro s16 t16 D16
      refine o_addK (k := ((m : Nat) : Int)) (by first | rfl | lia | omega) (by assumption) ?_
      intro s17 t17 D17
      refine evalPart_none_step ?_
      refine l_slice (ys := zs.take m) D17 (lst_is (D17.at 2 rfl)) (by first | decide | assumption | exact a1 ‹_› | exact a2 ‹_› | exact a3 ‹_› (by decide) | exact dl ‹_› | exact ee ‹_› ‹_› | lia | omega) .none (.int _ _) .none (by simp) (pick_upto _ _) ?_
      intro sh s18 D18
      refine k9 _ _ ?_
      ((with_reducible refine' stL ?D ?_ ?hk ?hx ?hL); (case hL => exact rfl); (case D => assumption); (case hx => exact rfl); (case hk => exact rfl); intro _ _)
      refine x_assignK ?_
      intro K9 k9
      (with_reducible refine wpAny_BinOp ?_)
      ((with_reducible refine' nmQ ?D ?v ?_ ?o ?L); (case L => exact rfl); (case o => exact Eq.refl true); (case D => assumption); (case v => exact rfl))
      ((with_reducible refine' nmQ ?D ?v ?_ ?o ?L); (case L => exact rfl); (case o => exact Eq.refl true); (case D => assumption); (case v => exact rfl))
      refine l_add (by assumption) (Act.at (by assumption) 0 rfl) (Act.at (by assumption) 2 rfl) (by first | decide | assumption | exact a1 ‹_› | exact a2 ‹_› | exact a3 ‹_› (by decide) | exact dl ‹_› | exact ee ‹_› ‹_› | lia | omega) (by first | with_reducible exact Nat.le_trans (s10 ‹_ = _› ‹_›) (by decide) | lia | omega) ?_
      intro ra2 s20 D20
      refine k9 _ _ ?_
      ((with_reducible refine' stL ?D ?_ ?hk ?hx ?hL); (case hL => exact rfl); (case D => assumption); (case hx => exact rfl); (case hk => exact rfl); intro _ _)
      refine x_assignK ?_
      intro K9 k9
      (with_reducible refine Subscript_ ?_)
      (with_reducible refine wpAny_BinOp ?_)
      ((with_reducible refine' nmQ ?D ?v ?_ ?o ?L); (case L => exact rfl); (case o => exact Eq.refl true); (case D => assumption); (case v => exact rfl))
      (with_reducible refine wpAny_BinOp ?_)
      (with_reducible refine Subscript_ ?_)
      ((with_reducible refine' nmQ ?D ?v ?_ ?o ?L); (case L => exact rfl); (case o => exact Eq.refl true); (case D => assumption); (case v => exact rfl))
      refine wpAny_Slice ?_
      refine evalPart_some_step ?_
      (with_reducible refine PyProof.Rows.UnaryOp_ ?_)
      ((with_reducible refine' e_int ?D ?_); (case D => assumption); intro _ _ _)
      ((with_reducible refine' o_neg ?D ?_); (case D => assumption); intro _ _ _)
      refine evalPart_none_step ?_
      refine evalPart_none_step ?_
      refine l_slice (ys := (zs.take m).drop ((zs.take m).length - 1)) (by assumption) (lst_is (Act.at (by assumption) 1 rfl)) (by first | decide | assumption | exact a1 ‹_› | exact a2 ‹_› | exact a3 ‹_› (by decide) | exact dl ‹_› | exact ee ‹_› ‹_› | lia | omega) (.int _ _) .none .none (by simp) (pick_tail _ 1 (by decide)) ?_
      intro la s21 D21
      ((with_reducible refine' e_int ?D ?_); (case D => assumption); intro _ _ _)
      refine l_mul (i := 16) (by assumption) (Act.at (by assumption) 0 rfl) (by rw [List.length_drop]; first | with_reducible exact t30 ‹_› ‹_› | lia | omega) (by decide) ?_
      intro lb s22 D22
      refine l_add (by assumption) (Act.at (by assumption) 3 rfl) (Act.at (by assumption) 0 rfl) (by first | decide | assumption | exact a1 ‹_› | exact a2 ‹_› | exact a3 ‹_› (by decide) | exact dl ‹_› | exact ee ‹_› ‹_› | lia | omega) (by rw [List.length_flatten, List.map_replicate, List.sum_replicate_nat, List.length_drop]; first | with_reducible exact t29 ‹_› ‹_› | lia | omega) ?_
      intro lc s23 D23
      refine wpAny_Slice ?_
      refine evalPart_none_step ?_
      refine evalPart_some_step ?_
      ((with_reducible refine' e_int ?D ?_); (case D => assumption); intro _ _ _)
      refine evalPart_none_step ?_
      refine sub_any ?_
      refine l_slice (ys := (zs.take m ++ (List.replicate 16 ((zs.take m).drop ((zs.take m).length - 1))).flatten).take 16) (by assumption) (lst_is (Act.at (by assumption) 0 rfl)) (by rw [List.length_append, List.length_flatten, List.map_replicate, List.sum_replicate_nat, List.length_drop]; first | with_reducible exact t31 ‹_› ‹_› | lia | omega) .none (.int _ _) .none (by simp) (pick_upto _ 16) ?_
      intro sa2 s24 D24
      refine k9 _ _ ?_
      refine stL D24 ?_ rfl rfl
      intro s25 D25
      refine x_nil (w9 _ ?_)
      refine ⟨(sa2, lst ((zs.take m ++ (List.replicate 16 ((zs.take m).drop ((zs.take m).length - 1))).flatten).take 16) 0), (ra2, lst (zs.take m ++ tv) 0), (ta, lst tv nT), sa2, _, _, ra2, _, _, ?_, ?_, .head _, .tail _ (.head _), .tail _ (.tail _ (.head _)), ?_⟩
      · unfold sizesOf
        rw [if_pos h]
        refine Nats.take ?_ 16
        refine hsh.app ?_
        have := (hsh.drop ((zs.take m).length - 1)).rep 16
        rw [hshl, last_one (by first | with_reducible exact ‹_ ∧ _›.1 | lia | omega), rep_one, ← hshl] at this
        rw [← hshl]
        exact this
      · unfold rulerOf
        rw [if_pos h]
        exact hsh.app htv
      · exact Act.pre (l := (l5 al sa2 ta ra2 (.int (wayOf c0 : Nat) t7))) (r := [(Str.ofString "shown", .ref sh)]) (((((((D25.erase 1).erase 1).erase 1).erase 2).erase 2).erase 3))
    · refine x_nil (w9 _ ?_)
      refine ⟨_, _, _, sa, zs, mz, ra, _, 0, ?_, ?_, .tail _ (.tail _ (.head _)), .head _, .tail _ (.head _), D13⟩
      · unfold sizesOf
        rw [h, if_neg (by decide)]; exact hzs
      · unfold rulerOf
        rw [h, if_neg (by decide)]; exact hzs.app htv
  · rintro s13 ⟨x0, x1, x2, sa, sv, nS, ra, rv, nR, h1, h2, h3, h4, h5, D13⟩
    exact k s13 x0 x1 x2 sa sv nS ra rv nR ta tv nT t7 h1 h2 htv h3 h4 h5 D13
end
section
variable {w : World} {B : Heap} {A : Around} {s₀ s : Shared} {L : Addr} {l : List (Str × Value)} {N : List (Addr × Obj)} {P : Heap → Prop}
theorem Act.ofX (D : Act B s₀ L l N P s) (j n : Nat) {a : Addr} {o : Obj} (hm : (a, o) ∈ (N.drop j).take n) : s.heap.get? a = some o := D.hp.get (a, o) (List.mem_of_mem_drop (List.mem_of_mem_take hm))
theorem a_tup {env : Env} {elts : List Expr} {k : Nat} {pos : Pos} {a : Addr} {xs : List Value} {m : Nat} {Qu : Unit → Shared → Prop} (D : Act B s₀ L l N P s) (hh : A.handled = none) (ha : s.heap.get? a = some (tup xs m))
    (h : ∀ s', Act B s₀ L l N P s' → wpAny (model PR w) A (assignInOrder ((assignEach elts env).map (·.2)) xs) Qu no s')
    (hn : (assignEach elts env).length = xs.length := by rfl) (hstar : (assignEach elts env).findIdx? (·.1) = none := by rfl) :
    wpAny (model PR w) A (assign (.Tuple elts k pos) env (.ref a)) Qu no s :=
  assign_Tuple_tuple hh (tup_is ha) (by rw [hn]; simp) hstar fun h' x => h _ (D.to' (D.hp.keeps fun b o e => x b o (Nat.ne_of_lt (Heap.lt_size e)) e))
theorem m_join {x : Str} {t : Tok} {pl : Sem Bool} {Q : Value × List Value → Shared → Prop} (h : Q (.builtin "str.join", [.str x t]) s) : wpAny (model PR w) A (getMethod (.str x t) "join" pl) Q no s := GM.join h
theorem Txts.app {xs ys : List Value} {ps qs : List (List Nat)} (h : Txts xs ps) (k : Txts ys qs) : Txts (xs ++ ys) (ps ++ qs) := by
  show StrsAre _ _
  rw [List.map_append]; exact StrsAre.append' h k
theorem Txts.one (p : List Nat) (t : Tok) : Txts [.str (S p) t] [p] := .cons _ _ .nil
theorem Txts.len {xs : List Value} {ps : List (List Nat)} (h : Txts xs ps) : xs.length = ps.length := by have := StrsAre.len_eq h; rwa [List.length_map] at this
end
section
variable {w : World} {mg mb : Str → Option Value} {B : Heap} {A : Around} {s₀ s : Shared} {Q : Flow → Shared → Prop} {al cl sa ra ta : Addr} {c0 c1 : Int} {o1 o2 oc : Obj} {x0 x1 x2 : Addr × Obj} {sv rv tv : List Value} {nS nR nT : Nat} {tw : Tok}
theorem law_c (G : Gnd w mg mb B) (O : Ok B s₀.heap) (r : Room 7 A) (d1 : o1.data = .cell (some (.ref cl))) (d2 : o2.data = .cell none) (hoc : Nums2 oc [c0, c1])
    (h1 : Nats sv (sizesOf c0)) (h2 : Nats rv (rulerOf c0)) (h3 : Nats tv (tailOf c0)) (m1 : (sa, lst sv nS) ∈ [x0, x1, x2]) (m2 : (ra, lst rv nR) ∈ [x0, x1, x2]) (m3 : (ta, lst tv nT) ∈ [x0, x1, x2])
    (D : Act B s₀ s₀.heap.objs.size (l5 al sa ta ra (.int (wayOf c0 : Nat) tw)) (xN s₀ x0 x1 x2 cl oc o1 o2) T0 s)
    (k : ∀ s' sy us n gs vs m o2 tt, Nats us (symsOf c0 c1) → Nats vs (textOf c0 c1) → o2.data = .cell (some (.str (S (textOf c0 c1)) tt)) →
      Act B s₀ s₀.heap.objs.size (l7 al sa ta ra sy gs (.int (wayOf c0 : Nat) tw)) (nD s₀ gs sy ta vs us tv m n nT o2) T0 s' →
      wpAny (model PR w) A (execs (lawBody.drop 11) (lawEnv s₀.heap.objs.size)) Q no s') :
    wpAny (model PR w) A (execs (lawBody.drop 7) (lawEnv s₀.heap.objs.size)) Q no s := by
  have hun : A.units + 64 < cLine := by have := r.un; show A.units + 64 < 9900; first | with_reducible exact s56 ‹_› | lia | omega
  have hsl := sizes_len c0
  have h1l := h1.len
  have T := text_ok c0 c1
  have DS := drawn_5 c0 c1
  refine x_ifBK false (fun s' => Act B s₀ s₀.heap.objs.size (l5 al sa ta ra (.int (wayOf c0 : Nat) tw)) (xN s₀ x0 x1 x2 cl oc o1 o2) T0 s') ?_ (fun h => by cases h) ?_
  · intro K9 k9
    ((with_reducible refine wpAny_isTrue_Compare1 ?_ ?hm); (case hm => with_unfolding_all rfl))
    ((with_reducible refine' fn_Q ?G ?D g88 F88.2 ?_ ?hs ?he); (case hs => exact Eq.refl true); (case he => exact rfl); (case G => assumption); (case D => assumption))
    ((with_reducible refine sp_cons ?_ ?he); (case he => exact rfl))
    ((with_reducible refine' nmQ ?D ?v ?_ ?o ?L); (case L => exact rfl); (case o => exact Eq.refl true); (case D => assumption); (case v => exact rfl))
    (with_reducible refine sp_nil ?_)
    refine ⟨D.ok, ?_⟩
    refine sizes_spec G D.ok (r.weak (by decide)) (lst_is (D.ofX 0 3 m2)) h2 (ruler_len c0) (ruler_head c0) ?_
    intro s2 y ys n X hys
    have D2 := D.take X
    ((with_reducible refine' nmQ ?D ?v ?_ ?o ?L); (case L => exact rfl); (case o => exact Eq.refl true); (case D => assumption); (case v => exact rfl))
    refine l_neN (lst_is (D2.at 0 rfl)) (lst_is (D2.ofX 1 3 m1)) hys h1 hun ?_
    rw [ruler_says]
    (with_reducible refine wpAny_truthy_bool ?_)
    exact k9 _ _ ⟨by simp, D2.erase 0⟩
  intro _ s2 D2
  refine x_nil ?_
  refine x_unpack ?_
  ((with_reducible refine' fn_Q ?G ?D g93 F93.2 ?_ ?hs ?he); (case hs => exact Eq.refl true); (case he => exact rfl); (case G => assumption); (case D => assumption))
  ((with_reducible refine sp_cons ?_ ?he); (case he => exact rfl))
  (with_reducible refine Subscript_ ?_)
  refine nmC ⟨o1, D2.at 5 rfl, d1⟩ rfl ?_
  ((with_reducible refine' e_int ?D ?_); (case D => assumption); intro _ _ _)
  refine n2_item (j := 1) (Act.at (by assumption) 3 rfl) hoc rfl rfl (by simp) ?_
  intro u3
  ((with_reducible refine sp_cons ?_ ?he); (case he => exact rfl))
  ((with_reducible refine' nmQ ?D ?v ?_ ?o ?L); (case L => exact rfl); (case o => exact Eq.refl true); (case D => assumption); (case v => exact rfl))
  (with_reducible refine sp_nil ?_)
  rename_i s3 t3 D3
  refine ⟨D3.ok, ?_⟩
  refine drawn_spec G D3.ok (r.weak (by decide)) (lst_is (D3.ofX 0 3 m1)) h1 hsl.1 (by first | with_reducible exact a3 ‹_ ∧ _›.2 (by decide) | lia | omega) (sizes_is c0) ?_
  intro s4 tp sy gs ot us vs n m X4 hot hus hvs
  have D4 := D3.take X4
  subst hot
  refine a_tup D4 r.hh (D4.at 0 rfl) ?_
  intro s5 D5
  refine as_cons (wpAny_assign_Name ?_)
  ((with_reducible refine' stL ?D ?_ ?hk ?hx ?hL); (case hL => exact rfl); (case D => assumption); (case hx => exact rfl); (case hk => exact rfl); intro _ _)
  refine as_cons (wpAny_assign_Name ?_)
  refine stL (by assumption) ?_ rfl rfl
  intro s6 D6
  refine as_nil ?_
  have D6 : Act B s₀ s₀.heap.objs.size (l7 al sa ta ra sy gs (.int (wayOf c0 : Nat) tw)) ((gs, lst vs m) :: (sy, lst us n) :: xN s₀ x0 x1 x2 cl oc o1 o2) T0 s6 := D6.erase 0
  clear D5 D4 D2 D
  have husl : us.length = (symsOf c0 c1).length := hus.len
  have hvsl : vs.length = (textOf c0 c1).length := hvs.len
  have hul : us.length = 5 := by rw [husl]; exact DS.len
  have hvl : vs.length ≤ 15 := by rw [hvsl]; exact DS.n3
  refine x_ifBK false (fun s' => Act B s₀ s₀.heap.objs.size (l7 al sa ta ra sy gs (.int (wayOf c0 : Nat) tw)) ((gs, lst vs m) :: (sy, lst us n) :: xN s₀ x0 x1 x2 cl oc o1 o2) T0 s') ?_ (fun h => by cases h) ?_
  · intro K9 k9
    ((with_reducible refine wpAny_isTrue_Compare1 ?_ ?hm); (case hm => with_unfolding_all rfl))
    ((with_reducible refine' fn_Q ?G ?D g100 F100.2 ?_ ?hs ?he); (case hs => exact Eq.refl true); (case he => exact rfl); (case G => assumption); (case D => assumption))
    ((with_reducible refine sp_cons ?_ ?he); (case he => exact rfl))
    (with_reducible refine wpAny_BinOp ?_)
    ((with_reducible refine' nmQ ?D ?v ?_ ?o ?L); (case L => exact rfl); (case o => exact Eq.refl true); (case D => assumption); (case v => exact rfl))
    refine List_ ?_
    ((with_reducible refine sp_cons ?_ ?he); (case he => exact rfl))
    ((with_reducible refine' e_int ?D ?_); (case D => assumption); intro _ _ _)
    (with_reducible refine sp_nil ?_)
    refine n_list (by assumption) (by simp) ?_
    intro b1 s7 D7
    refine l_add D7 (D7.at 2 rfl) (D7.at 0 rfl) (by first | decide | assumption | exact a1 ‹_› | exact a2 ‹_› | exact a3 ‹_› (by decide) | exact dl ‹_› | exact ee ‹_› ‹_› | lia | omega) (by simp) ?_
    intro b2 s8 D8
    ((with_reducible refine sp_cons ?_ ?he); (case he => exact rfl))
    ((with_reducible refine' nmQ ?D ?v ?_ ?o ?L); (case L => exact rfl); (case o => exact Eq.refl true); (case D => assumption); (case v => exact rfl))
    (with_reducible refine sp_nil ?_)
    refine ⟨D8.ok, ?_⟩
    refine read_spec (syms := symsOf c0 c1) (ruler := rulerOf c0) G D8.ok (r.weak (by decide)) (lst_is (D8.at 0 rfl)) (hus.app (Nats.one 0 _)) (lst_is (D8.ofX 4 3 m2)) h2 (ruler_len c0) (ruler_head c0) (drawn_rd c0 c1).1 ?_
    intro s9 y ys n9 X9 hys
    have D9 := D8.take X9
    ((with_reducible refine' nmQ ?D ?v ?_ ?o ?L); (case L => exact rfl); (case o => exact Eq.refl true); (case D => assumption); (case v => exact rfl))
    rw [(drawn_rd c0 c1).2] at hys
    refine l_neN (lst_is (D9.at 0 rfl)) (lst_is (D9.at 3 rfl)) hys hvs hun ?_
    (with_reducible refine wpAny_truthy_bool ?_)
    exact k9 _ _ ⟨by simp, ((D9.erase 0).erase 0).erase 0⟩
  intro _ s7 D7
  refine x_nil ?_
  refine x_assignK ?_
  intro K9 k9
  refine MethodCall_ ?_
  refine e_str (by assumption) ?_
  intro s8 t8 D8
  refine m_join ?_
  refine callWith_method1 ?_
  ((with_reducible refine sp_cons ?_ ?he); (case he => exact rfl))
  refine x_comp ?_
  ((with_reducible refine' nmQ ?D ?v ?_ ?o ?L); (case L => exact rfl); (case o => exact Eq.refl true); (case D => assumption); (case v => exact rfl))
  refine comp_listE (xs := vs) D8 r.hh (lst_is (D8.at 0 rfl)) (fun i ys => i ≤ vs.length ∧ Txts ys (((textOf c0 c1).take i).map fun c => [c])) ⟨Nat.zero_le _, by simp; exact .nil⟩ (fun i ys h => by rw [h.2.len, List.length_map, List.length_take]; first | lia | omega) ?_ ?_
  · intro i v oi ys mi s9 hv hF D9 K7 k7
    have hil : i < vs.length := (List.getElem?_eq_some_iff.mp hv).1
    have hil2 : i < (textOf c0 c1).length := by first | with_reducible exact Nat.lt_of_lt_of_eq ‹_› ‹_› | lia | omega
    obtain ⟨tv', hv'⟩ := hvs.get (getD_some (l := textOf c0 c1) (i := i) hil2)
    rw [hv] at hv'
    cases hv'
    (((with_reducible refine' fn_B boot_chr ?G ?D b_chr ?_ ?hs ?hc); (case hc => exact .inl ⟨_, rfl⟩)); (case hs => (repeat' apply And.intro) <;> exact rfl); (case G => assumption); (case D => assumption))
    ((with_reducible refine sp_cons ?_ ?he); (case he => exact rfl))
    ((with_reducible refine' nmQ ?D ?v ?_ ?o ?L); (case L => exact rfl); (case o => exact Eq.refl true); (case D => assumption); (case v => exact rfl))
    (with_reducible refine sp_nil ?_)
    have hc := (abc_lt T.abc _ (getD_mem (l := textOf c0 c1) (i := i) hil2)).2
    refine t_chr (by assumption) (by first | decide | assumption | exact a1 ‹_› | exact a2 ‹_› | exact a3 ‹_› (by decide) | exact dl ‹_› | exact ee ‹_› ‹_› | lia | omega) ?_
    intro s10 t10 D10
    refine k7 _ _ D10 ⟨by first | decide | assumption | exact a1 ‹_› | exact a2 ‹_› | exact a3 ‹_› (by decide) | exact dl ‹_› | exact ee ‹_› ‹_› | lia | omega, ?_⟩
    rw [List.take_add_one, getD_some (l := textOf c0 c1) (i := i) hil2, List.map_append]
    exact hF.2.app (Txts.one _ _)
  · intro ys my s9 hF D9
    refine comp_none D8 D9 ?_
    intro s10 D10
    (with_reducible refine sp_nil ?_)
    have hj : Txts ys ((textOf c0 c1).map fun c => [c]) := by
      have := hF.2
      rw [hvsl, List.take_length] at this
      exact this
    refine c_join D10 (lst_is (D10.at 0 rfl)) hj (by have := T.n3; first | lia | omega) ?_
    intro s11 t11 D11
    refine k9 _ _ ?_
    refine stC D11 7 rfl d2 ?_
    intro s12 o2' d2' D12
    have D12 : Act B s₀ s₀.heap.objs.size (l7 al sa ta ra sy gs (.int (wayOf c0 : Nat) tw)) ((gs, lst vs m) :: (sy, lst us n) :: xN s₀ x0 x1 x2 cl oc o1 o2') T0 s12 := D12.erase 0
    refine k s12 sy us n gs vs m o2' t11 hus hvs d2' (D12.sub ?_)
    refine List.Sublist.cons_cons _ (List.Sublist.cons_cons _ ?_)
    exact List.Sublist.append (l₁ := [(ta, lst tv nT)]) (l₂ := [x0, x1, x2]) (List.singleton_sublist.mpr m3) (List.Sublist.cons _ (List.Sublist.cons_cons _ (List.nil_sublist _)))
end
section
variable {w : World} {A : Around} {s : Shared} {R : Result → Shared → Prop} {I : Addr} {n i : Nat} {val : Nat → Value → Prop} {ob : Nat → Obj → Prop} {base : Heap → Prop} {o : Obj}
theorem start_at {elt target iter : Expr} {ifs : List Expr} {rest : List Comprehension} {scope : Scope} {pos : Pos} {acc : Value} {env : Env} (W : It w A I n val ob base) (hI : s.heap.get? I = some o) (ho : ob i o)
    (loop : codeAny (model PR w) A (.compLoop (.ListComp elt (⟨target, iter, ifs, 0⟩ :: rest) scope pos) 0 (.ref I) acc env) R s) :
    codeAny (model PR w) A (.compStart (.ListComp elt (⟨target, iter, ifs, 0⟩ :: rest) scope pos) 0 (.ref I) acc env) R s :=
  codeAny_compStart_list loop (wpAny_mono (W.self i s _ o hI ho loop) (fun _ _ x => x) fun _ _ x => x.elim)
theorem start_at1 {elt t1 i1 t2 i2 : Expr} {ifs : List Expr} {scope : Scope} {pos : Pos} {acc : Value} {env : Env} (W : It w A I n val ob base) (hI : s.heap.get? I = some o) (ho : ob i o)
    (loop : codeAny (model PR w) A (.compLoop (.ListComp elt [⟨t1, i1, [], 0⟩, ⟨t2, i2, ifs, 0⟩] scope pos) 1 (.ref I) acc env) R s) :
    codeAny (model PR w) A (.compStart (.ListComp elt [⟨t1, i1, [], 0⟩, ⟨t2, i2, ifs, 0⟩] scope pos) 1 (.ref I) acc env) R s :=
  start2_1 loop (wpAny_mono (W.self i s _ o hI ho loop) (fun _ _ x => x) fun _ _ x => x.elim)
end
noncomputable abbrev l10 (al sa ta ra sy gs : Addr) (wy : Value) (la he rc : Addr) : List (Str × Value) := [(Str.ofString "script", .ref al), (Str.ofString "sizes", .ref sa), (Str.ofString "way", wy), (Str.ofString "tail", .ref ta), (Str.ofString "ruler", .ref ra), (Str.ofString "symbols", .ref sy), (Str.ofString "signs", .ref gs),
  (Str.ofString "laid", .ref la), (Str.ofString "heads", .ref he), (Str.ofString "reaches", .ref rc)]
noncomputable def headsOf (tx : List Nat) (c : Nat) (j : Nat) : List Nat := ((List.range tx.length).reverse.take j).filter fun q => tx.getD q 0 == c
noncomputable def headsTo (tx : List Nat) (i : Nat) : List Nat := (([1, 65, 97, 255] : List Nat).take i).flatMap fun c => headsOf tx c tx.length
theorem headsOf_len (tx : List Nat) (c j : Nat) : (headsOf tx c j).length ≤ tx.length := by
  unfold headsOf
  refine Nat.le_trans (List.length_filter_le ..) ?_
  rw [List.length_take, List.length_reverse, List.length_range]; first | with_reducible exact Nat.min_le_right _ _ | lia | omega
theorem headsTo_succ (tx : List Nat) {i c : Nat} (h : ([1, 65, 97, 255] : List Nat)[i]? = some c) : headsTo tx (i + 1) = headsTo tx i ++ headsOf tx c tx.length := by
  unfold headsTo
  rw [List.take_add_one, h, List.flatMap_append]
  simp
theorem headsTo_all (tx : List Nat) : headsTo tx 4 = headsL tx := by
  unfold headsTo headsL headsOf
  congr 1
  funext c
  rw [List.take_of_length_le (by simp)]
theorem headsOf_succ (tx : List Nat) (c : Nat) {j : Nat} (h : j < tx.length) : headsOf tx c (j + 1) = headsOf tx c j ++ (if (tx.getD (tx.length - 1 - j) 0 == c) = true then [tx.length - 1 - j] else []) := by
  unfold headsOf
  exact take_succ_filter _ _ _ _ (by rw [List.getElem?_reverse (by simpa using h), List.length_range, List.getElem?_range (by first | with_reducible exact s5 ‹_› | lia | omega)])
section
variable {w : World} {mg mb : Str → Option Value} {B : Heap} {A : Around} {s₀ s : Shared} {Q : Flow → Shared → Prop} {al sa ra ta sy gs : Addr} {o2 : Obj} {us vs tv : List Value} {n m nT : Nat} {wy : Value} {tx : List Nat} {tt : Tok}
theorem law_d1 (G : Gnd w mg mb B) (O : Ok B s₀.heap) (r : Room 7 A) (T : TextOk tx) (d2 : o2.data = .cell (some (.str (S tx) tt)))
    (D : Act B s₀ s₀.heap.objs.size (l7 al sa ta ra sy gs wy) (nD s₀ gs sy ta vs us tv m n nT o2) T0 s)
    (k : ∀ s' la he rc ls hs rs n1 n2 n3, Nats ls (laidTo tx tx.length tx.length) → Nats rs (rsOf tx) →
      Act B s₀ s₀.heap.objs.size (l10 al sa ta ra sy gs wy la he rc) (nE s₀ rc he la rs hs ls n3 n2 n1 gs sy ta vs us tv m n nT o2) T0 s' →
      wpAny (model PR w) A (execs (lawBody.drop 13) (lawEnv s₀.heap.objs.size)) Q no s') :
    wpAny (model PR w) A (execs (lawBody.drop 11) (lawEnv s₀.heap.objs.size)) Q no s := by
  have hun : A.units + 64 < cLine := by have := r.un; show A.units + 64 < 9900; first | with_reducible exact s56 ‹_› | lia | omega
  have hn3 := T.n3
  refine x_unpack ?_
  ((with_reducible refine' fn_Q ?G ?D g114 F114.2 ?_ ?hs ?he); (case hs => exact Eq.refl true); (case he => exact rfl); (case G => assumption); (case D => assumption))
  ((with_reducible refine sp_cons ?_ ?he); (case he => exact rfl))
  refine nmC ⟨o2, D.at 3 rfl, d2⟩ rfl ?_
  (with_reducible refine sp_nil ?_)
  refine ⟨D.ok, ?_⟩
  refine halved_spec G D.ok r (by first | decide | assumption | exact a1 ‹_› | exact a2 ‹_› | exact a3 ‹_› (by decide) | exact dl ‹_› | exact ee ‹_› ‹_› | lia | omega) (fun i hi => (lspot_is hi (laid_is tx i (by first | decide | assumption | exact a1 ‹_› | exact a2 ‹_› | exact a3 ‹_› (by decide) | exact dl ‹_› | exact ee ‹_› ‹_› | lia | omega))).2.2.2) ?_
  intro s2 tp la he rc ls hs rs n1 n2 n3 X2 hls hhs hrs
  have D2 := D.take X2
  refine a_tup D2 r.hh (D2.at 0 rfl) ?_
  intro s3 D3
  refine as_cons (wpAny_assign_Name ?_)
  ((with_reducible refine' stL ?D ?_ ?hk ?hx ?hL); (case hL => exact rfl); (case D => assumption); (case hx => exact rfl); (case hk => exact rfl); intro _ _)
  refine as_cons (wpAny_assign_Name ?_)
  ((with_reducible refine' stL ?D ?_ ?hk ?hx ?hL); (case hL => exact rfl); (case D => assumption); (case hx => exact rfl); (case hk => exact rfl); intro _ _)
  refine as_cons (wpAny_assign_Name ?_)
  refine stL (by assumption) ?_ rfl rfl
  intro s4 D4
  refine as_nil ?_
  have D4 : Act B s₀ s₀.heap.objs.size (l10 al sa ta ra sy gs wy la he rc) (nE s₀ rc he la rs hs ls n3 n2 n1 gs sy ta vs us tv m n nT o2) T0 s4 := D4.erase 0
  rw [heads_eq T.abc] at hhs
  clear D3 D2 D X2
  refine x_ifBK false (fun s' => Act B s₀ s₀.heap.objs.size (l10 al sa ta ra sy gs wy la he rc) (nE s₀ rc he la rs hs ls n3 n2 n1 gs sy ta vs us tv m n nT o2) T0 s') ?_ (fun h => by cases h) ?_
  · intro K9 k9
    ((with_reducible refine wpAny_isTrue_Compare1 ?_ ?hm); (case hm => with_unfolding_all rfl))
    ((with_reducible refine' nmQ ?D ?v ?_ ?o ?L); (case L => exact rfl); (case o => exact Eq.refl true); (case D => assumption); (case v => exact rfl))
    refine x_comp ?_
    refine e_str D4 ?_
    intro s5 t5 D5
    refine comp_frame D5 { cls := .type "str_iterator", data := .fields #[.str (S [1, 65, 97, 255]) t5, .int 0 0] } (fun Q' h => wpAny_pyIter_wide (by decide +kernel) h) rfl (by decide) rfl ?_
    intro s6 D6
    have ho0 : SI (S [1, 65, 97, 255]) t5 0 { cls := .type "str_iterator", data := .fields #[.str (S [1, 65, 97, 255]) t5, .int 0 0] } := ⟨.inr ⟨rfl, by decide +kernel⟩, rfl⟩
    have W := It.str (w := w) (A := A) (I := s5.heap.objs.size) r.hh (S [1, 65, 97, 255]) t5
    refine start_at W (D6.at 1 rfl) ho0 ?_
    refine loop2_0W (fun k s' => ∃ i ys mm o, k = 4 - i ∧ i ≤ 4 ∧ SI (S [1, 65, 97, 255]) t5 i o ∧ Nats ys (headsTo tx i) ∧ Act B s5 (s5.heap.objs.size + 2) [] [(s5.heap.objs.size + 1, lst ys mm), (s5.heap.objs.size, o)] T0 s') ?_ 4 ⟨0, [], 0, _, rfl, Nat.zero_le _, ho0, .nil, D6⟩
    rintro k7 s7 ⟨i, ys, mm, o, rfl, hi, hob, hys, D7⟩
    intro Z1 y1
    by_cases hlt : i < 4
    · refine W.step D7 1 rfl hob trivial hlt ?_
      rintro v s8 o' ⟨c, tc, hc, rfl⟩ ho' D8
      refine wpAny_assign_Name ?_
      refine stL D8 ?_ rfl rfl
      intro s9 D9
      have D9 : Act B s5 (s5.heap.objs.size + 2) [(Str.ofString "sign", .str (S [c]) tc)] [(s5.heap.objs.size + 1, lst ys mm), (s5.heap.objs.size, o')] T0 s9 := D9
      have hc : ([1, 65, 97, 255] : List Nat)[i]? = some c := by rw [← hc]; show _ = ([1, 65, 97, 255] : List Nat).toArray[i]?; rw [List.getElem?_toArray]
      (((with_reducible refine' fn_B boot_range ?G ?D b_range ?_ ?hs ?hc); (case hc => exact .inr ⟨_, rfl⟩)); (case hs => (repeat' apply And.intro) <;> exact rfl); (case G => assumption); (case D => assumption))
      ((with_reducible refine sp_cons ?_ ?he); (case he => exact rfl))
      (with_reducible refine wpAny_BinOp ?_)
      (((with_reducible refine' fn_B boot_len' ?G ?D b_len ?_ ?hs ?hc); (case hc => exact .inl ⟨_, rfl⟩)); (case hs => (repeat' apply And.intro) <;> exact rfl); (case G => assumption); (case D => assumption))
      ((with_reducible refine sp_cons ?_ ?he); (case he => exact rfl))
      refine nmC ⟨o2, D5.thru D9 6 rfl, d2⟩ rfl ?_
      (with_reducible refine sp_nil ?_)
      refine t_len (by assumption) (by first | decide | assumption | exact a1 ‹_› | exact a2 ‹_› | exact a3 ‹_› (by decide) | exact dl ‹_› | exact ee ‹_› ‹_› | lia | omega) ?_
      intro s10 t10 D10
      ((with_reducible refine' e_int ?D ?_); (case D => assumption); intro _ _ _)
      ((with_reducible refine' o_sub ?D ?_); (case D => assumption); intro _ _ _)
      ((with_reducible refine sp_cons ?_ ?he); (case he => exact rfl))
      (with_reducible refine PyProof.Rows.UnaryOp_ ?_)
      ((with_reducible refine' e_int ?D ?_); (case D => assumption); intro _ _ _)
      ((with_reducible refine' o_neg ?D ?_); (case D => assumption); intro _ _ _)
      ((with_reducible refine sp_cons ?_ ?he); (case he => exact rfl))
      (with_reducible refine PyProof.Rows.UnaryOp_ ?_)
      ((with_reducible refine' e_int ?D ?_); (case D => assumption); intro _ _ _)
      ((with_reducible refine' o_neg ?D ?_); (case D => assumption); intro _ _ _)
      (with_reducible refine sp_nil ?_)
      refine r_3 (by first | decide | assumption | exact a1 ‹_› | exact a2 ‹_› | exact a3 ‹_› (by decide) | exact dl ‹_› | exact ee ‹_› ‹_› | lia | omega) (by assumption) ?_
      intro rr s11 ta' tb' tc' D11 hrr
      refine i_r3 (n := tx.length) D11 hrr (by first | decide | assumption | exact a1 ‹_› | exact a2 ‹_› | exact a3 ‹_› (by decide) | exact dl ‹_› | exact ee ‹_› ‹_› | lia | omega) ?_
      intro I2 oi2 s12 hoi2 D12
      have W2 := It.range (w := w) (A := A.mark none) (I := I2) r.mark.hh ((tx.length : Int) - 1) (-1) tx.length
      refine start_at1 W2 (D12.at 0 rfl) hoi2 ?_
      refine loop2_1W (fun k s' => ∃ j ys' mm' oj, k = tx.length - j ∧ j ≤ tx.length ∧ RI ((tx.length : Int) - 1) (-1) tx.length j oj ∧ Nats ys' (headsTo tx i ++ headsOf tx c j) ∧ Act B s5 (s5.heap.objs.size + 2) [(Str.ofString "sign", .str (S [c]) tc)] [(I2, oj), (s5.heap.objs.size + 1, lst ys' mm'), (s5.heap.objs.size, o')] T0 s') ?_ tx.length
        ⟨0, ys, mm, oi2, rfl, Nat.zero_le _, hoi2, by rw [show headsOf tx c 0 = [] from rfl, List.append_nil]; exact hys, D12⟩
      rintro k13 s13 ⟨j, ys', mm', oj, rfl, hj, hoj, hys', D13⟩
      intro Z2 y2
      have hyl : ys'.length ≤ 1000 := by
        have h1 := hys'.len
        have h2 := headsOf_len tx c j
        have h3 : (headsTo tx i).length ≤ 4 * tx.length := by
          unfold headsTo
          rw [List.length_flatMap]
          have : ∀ l : List Nat, (l.map fun c => (headsOf tx c tx.length).length).sum ≤ l.length * tx.length := fun l => by
            induction l with
            | nil => simp
            | cons a l ih =>
              have := headsOf_len tx a tx.length
              rw [List.map_cons, List.sum_cons, List.length_cons, Nat.succ_mul]; first | with_reducible exact t59 ‹_› ‹_› | lia | omega
          refine Nat.le_trans (this _) (Nat.mul_le_mul_right _ ?_)
          rw [List.length_take]; exact Nat.le_trans (Nat.min_le_left ..) hi
        rw [List.length_append] at h1
        first | lia | omega
      by_cases hjl : j < tx.length
      · refine W2.step D13 0 rfl hoj trivial hjl ?_
        rintro v s14 oj' ⟨tj, rfl⟩ hoj' D14
        have e1 : (tx.length : Int) - 1 + (j : Int) * -1 = ((tx.length - 1 - j : Nat) : Int) := by first | with_reducible exact s44 ‹_› | lia | omega
        rw [e1]
        clear e1
        refine wpAny_assign_Name ?_
        refine stL D14 ?_ rfl rfl
        intro s15 D15
        have D15 : Act B s5 (s5.heap.objs.size + 2) [(Str.ofString "sign", .str (S [c]) tc), (Str.ofString "at", .int ((tx.length - 1 - j : Nat) : Int) tj)] [(I2, oj'), (s5.heap.objs.size + 1, lst ys' mm'), (s5.heap.objs.size, o')] T0 s15 := D15
        refine wpAny_tests_one ?_
        ((with_reducible refine wpAny_isTrue_Compare1 ?_ ?hm); (case hm => with_unfolding_all rfl))
        (with_reducible refine Subscript_ ?_)
        refine nmC ⟨o2, D5.thru D15 6 rfl, d2⟩ rfl ?_
        ((with_reducible refine' nmQ ?D ?v ?_ ?o ?L); (case L => exact rfl); (case o => exact Eq.refl true); (case D => assumption); (case v => exact rfl))
        refine t_item D15 (getD_some (l := tx) (i := tx.length - 1 - j) (by first | with_reducible exact s5 ‹_› | lia | omega)) (by first | decide | assumption | exact a1 ‹_› | exact a2 ‹_› | exact a3 ‹_› (by decide) | exact dl ‹_› | exact ee ‹_› ‹_› | lia | omega) ?_
        intro s16 t16 D16
        ((with_reducible refine' nmQ ?D ?v ?_ ?o ?L); (case L => exact rfl); (case o => exact Eq.refl true); (case D => assumption); (case v => exact rfl))
        refine t_eq ?_
        (with_reducible refine wpAny_truthy_bool ?_)
        have hsucc := headsOf_succ tx c hjl
        by_cases hq : ([tx.getD (tx.length - 1 - j) 0] == [c]) = true
        · rw [if_pos hq]
          ((with_reducible refine' nmQ ?D ?v ?_ ?o ?L); (case L => exact rfl); (case o => exact Eq.refl true); (case D => assumption); (case v => exact rfl))
          refine h_append (D16.at 1 rfl) hyl ?_
          intro s17 hl17
          obtain ⟨m17, D17⟩ := D16.left 1 rfl (hard_seq rfl) hl17
          refine y2 _ ?_
          refine ⟨tx.length - (j + 1), by first | decide | assumption | exact a1 ‹_› | exact a2 ‹_› | exact a3 ‹_› (by decide) | exact dl ‹_› | exact ee ‹_› ‹_› | lia | omega, j + 1, _, m17, oj', rfl, by first | decide | assumption | exact a1 ‹_› | exact a2 ‹_› | exact a3 ‹_› (by decide) | exact dl ‹_› | exact ee ‹_› ‹_› | lia | omega, hoj', ?_, Act.pre (r := [(Str.ofString "at", .int ((tx.length - 1 - j : Nat) : Int) tj)]) D17⟩
          rw [hsucc, if_pos (by simpa using hq), ← List.append_assoc]
          exact hys'.app (Nats.one _ _)
        · rw [if_neg hq]
          refine y2 _ ?_
          refine ⟨tx.length - (j + 1), by first | decide | assumption | exact a1 ‹_› | exact a2 ‹_› | exact a3 ‹_› (by decide) | exact dl ‹_› | exact ee ‹_› ‹_› | lia | omega, j + 1, _, mm', oj', rfl, by first | decide | assumption | exact a1 ‹_› | exact a2 ‹_› | exact a3 ‹_› (by decide) | exact dl ‹_› | exact ee ‹_› ‹_› | lia | omega, hoj', ?_, Act.pre (r := [(Str.ofString "at", .int ((tx.length - 1 - j : Nat) : Int) tj)]) D16⟩
          rw [hsucc, if_neg (by simpa using hq), List.append_nil]
          exact hys'
      · have hje : j = tx.length := by first | decide | assumption | exact a1 ‹_› | exact a2 ‹_› | exact a3 ‹_› (by decide) | exact dl ‹_› | exact ee ‹_› ‹_› | lia | omega
        subst hje
        refine W2.end D13 0 rfl hoj trivial ?_
        intro s14 D14
        refine y1 _ ?_
        refine ⟨4 - (i + 1), by first | decide | assumption | exact a1 ‹_› | exact a2 ‹_› | exact a3 ‹_› (by decide) | exact dl ‹_› | exact ee ‹_› ‹_› | lia | omega, i + 1, ys', mm', o', rfl, by first | decide | assumption | exact a1 ‹_› | exact a2 ‹_› | exact a3 ‹_› (by decide) | exact dl ‹_› | exact ee ‹_› ‹_› | lia | omega, ho', ?_, Act.drop (l := [(Str.ofString "sign", .str (S [c]) tc)]) D14 (fun x v e => by cases e)⟩
        rw [headsTo_succ tx hc]
        exact hys'
    · have hi4 : i = 4 := by first | decide | assumption | exact a1 ‹_› | exact a2 ‹_› | exact a3 ‹_› (by decide) | exact dl ‹_› | exact ee ‹_› ‹_› | lia | omega
      subst hi4
      refine W.end D7 1 rfl hob trivial ?_
      intro s8 D8
      refine comp_none D5 D8 ?_
      intro s9 D9
      rw [headsTo_all] at hys
      refine l_neN (lst_is (D9.at 2 rfl)) (lst_is (D9.at 0 rfl)) hhs hys hun ?_
      (with_reducible refine wpAny_truthy_bool ?_)
      exact k9 _ _ ⟨by simp, D9.erase 0⟩
  intro _ s5 D5
  refine x_nil ?_
  exact k s5 la he rc ls hs rs n1 n2 n3 hls hrs D5
end
section
variable {w : World} {mg mb : Str → Option Value} {B : Heap} {A : Around} {s₀ s : Shared} {Q : Flow → Shared → Prop} {al sa ra ta sy gs la he rc : Addr} {o2 : Obj} {us vs tv ls hs rs : List Value} {n m nT n1 n2 n3 : Nat} {wy : Value} {tx : List Nat} {tt : Tok}
theorem law_d2 (G : Gnd w mg mb B) (O : Ok B s₀.heap) (r : Room 7 A) (T : TextOk tx) (d2 : o2.data = .cell (some (.str (S tx) tt))) (hls : Nats ls (laidTo tx tx.length tx.length))
    (D : Act B s₀ s₀.heap.objs.size (l10 al sa ta ra sy gs wy la he rc) (nE s₀ rc he la rs hs ls n3 n2 n1 gs sy ta vs us tv m n nT o2) T0 s)
    (k : ∀ s', Act B s₀ s₀.heap.objs.size (l10 al sa ta ra sy gs wy la he rc) (nE s₀ rc he la rs hs ls n3 n2 n1 gs sy ta vs us tv m n nT o2) T0 s' →
      wpAny (model PR w) A (execs (lawBody.drop 14) (lawEnv s₀.heap.objs.size)) Q no s') :
    wpAny (model PR w) A (execs (lawBody.drop 13) (lawEnv s₀.heap.objs.size)) Q no s := by
  have hun : A.units + 64 < cLine := by have := r.un; show A.units + 64 < 9900; first | with_reducible exact s56 ‹_› | lia | omega
  have hn3 := T.n3
  have hlsl := hls.len
  rw [laidTo_len] at hlsl
  have small : ∀ p, ∀ c ∈ tx.drop p, c ≤ 1000 := fun p c hc => by have := (abc_lt T.abc c (List.mem_of_mem_drop hc)).2; first | lia | omega
  refine x_ifBK false (fun s' => Act B s₀ s₀.heap.objs.size (l10 al sa ta ra sy gs wy la he rc) (nE s₀ rc he la rs hs ls n3 n2 n1 gs sy ta vs us tv m n nT o2) T0 s') ?_ (fun h => by cases h) ?_
  · intro K9 k9
    ((with_reducible refine wpAny_isTrue_Compare1 ?_ ?hm); (case hm => with_unfolding_all rfl))
    refine x_comp ?_
    ((with_reducible refine' nmQ ?D ?v ?_ ?o ?L); (case L => exact rfl); (case o => exact Eq.refl true); (case D => assumption); (case v => exact rfl))
    refine comp_listE (xs := ls) D r.hh (lst_is (D.at 2 rfl)) (fun i ys => i ≤ ls.length ∧ Txts ys (((laidTo tx tx.length tx.length).take i).map fun p => tx.drop p)) ⟨Nat.zero_le _, by simp; exact .nil⟩ (fun i ys h => by rw [h.2.len, List.length_map, List.length_take]; first | lia | omega) ?_ ?_
    · intro i v oi ys mi s2 hv hF D2 K7 k7
      have hil : i < ls.length := (List.getElem?_eq_some_iff.mp hv).1
      have hil2 : i < (laidTo tx tx.length tx.length).length := by rw [laidTo_len]; first | with_reducible exact Nat.lt_of_lt_of_eq ‹_› ‹_› | lia | omega
      obtain ⟨tv', hv'⟩ := hls.get (getD_some hil2)
      rw [hv] at hv'
      cases hv'
      (with_reducible refine Subscript_ ?_)
      refine nmC ⟨o2, D.thru D2 6 rfl, d2⟩ rfl ?_
      refine wpAny_Slice ?_
      refine evalPart_some_step ?_
      ((with_reducible refine' nmQ ?D ?v ?_ ?o ?L); (case L => exact rfl); (case o => exact Eq.refl true); (case D => assumption); (case v => exact rfl))
      refine evalPart_none_step ?_
      refine evalPart_none_step ?_
      refine t_sn (by assumption) (by first | decide | assumption | exact a1 ‹_› | exact a2 ‹_› | exact a3 ‹_› (by decide) | exact dl ‹_› | exact ee ‹_› ‹_› | lia | omega) ?_
      intro s3 t3 D3
      refine k7 _ _ D3 ⟨by first | decide | assumption | exact a1 ‹_› | exact a2 ‹_› | exact a3 ‹_› (by decide) | exact dl ‹_› | exact ee ‹_› ‹_› | lia | omega, ?_⟩
      rw [List.take_add_one, getD_some hil2, List.map_append]
      exact hF.2.app (Txts.one _ _)
    · intro ys my s2 hF D2
      refine comp_none D D2 ?_
      intro s3 D3
      have hF : Txts ys ((laidTo tx tx.length tx.length).map fun p => tx.drop p) := by
        have := hF.2
        rw [hlsl, List.take_of_length_le (by rw [laidTo_len]; exact Nat.le_refl _)] at this
        exact this
      (((with_reducible refine' fn_B boot_sorted ?G ?D b_sorted ?_ ?hs ?hc); (case hc => exact .inl ⟨_, rfl⟩)); (case hs => (repeat' apply And.intro) <;> exact rfl); (case G => assumption); (case D => assumption))
      ((with_reducible refine sp_cons ?_ ?he); (case he => exact rfl))
      refine x_comp ?_
      (((with_reducible refine' fn_B boot_range ?G ?D b_range ?_ ?hs ?hc); (case hc => exact .inr ⟨_, rfl⟩)); (case hs => (repeat' apply And.intro) <;> exact rfl); (case G => assumption); (case D => assumption))
      ((with_reducible refine sp_cons ?_ ?he); (case he => exact rfl))
      (((with_reducible refine' fn_B boot_len' ?G ?D b_len ?_ ?hs ?hc); (case hc => exact .inl ⟨_, rfl⟩)); (case hs => (repeat' apply And.intro) <;> exact rfl); (case G => assumption); (case D => assumption))
      ((with_reducible refine sp_cons ?_ ?he); (case he => exact rfl))
      refine nmC ⟨o2, D3.at 7 rfl, d2⟩ rfl ?_
      (with_reducible refine sp_nil ?_)
      refine t_len (by assumption) (by first | decide | assumption | exact a1 ‹_› | exact a2 ‹_› | exact a3 ‹_› (by decide) | exact dl ‹_› | exact ee ‹_› ‹_› | lia | omega) ?_
      intro s4 t4 D4
      (with_reducible refine sp_nil ?_)
      refine r_1 (by assumption) ?_
      intro rr s5 tr ur vr D5 hr5
      refine comp_r1E D5 r.hh hr5 (by first | decide | assumption | exact a1 ‹_› | exact a2 ‹_› | exact a3 ‹_› (by decide) | exact dl ‹_› | exact ee ‹_› ‹_› | lia | omega) (fun i ys => i ≤ tx.length ∧ Txts ys ((List.range i).map fun p => tx.drop p)) ⟨Nat.zero_le _, .nil⟩ (fun i ys h => by rw [h.2.len, List.length_map, List.length_range]; first | lia | omega) ?_ ?_
      · intro i ti oi zs mi s6 hi hF6 D6 K7 k7
        (with_reducible refine Subscript_ ?_)
        refine nmC ⟨o2, D5.thru D6 7 rfl, d2⟩ rfl ?_
        refine wpAny_Slice ?_
        refine evalPart_some_step ?_
        ((with_reducible refine' nmQ ?D ?v ?_ ?o ?L); (case L => exact rfl); (case o => exact Eq.refl true); (case D => assumption); (case v => exact rfl))
        refine evalPart_none_step ?_
        refine evalPart_none_step ?_
        refine t_sn (by assumption) (by first | decide | assumption | exact a1 ‹_› | exact a2 ‹_› | exact a3 ‹_› (by decide) | exact dl ‹_› | exact ee ‹_› ‹_› | lia | omega) ?_
        intro s7 t7 D7
        refine k7 _ _ D7 ⟨by first | decide | assumption | exact a1 ‹_› | exact a2 ‹_› | exact a3 ‹_› (by decide) | exact dl ‹_› | exact ee ‹_› ‹_› | lia | omega, ?_⟩
        rw [List.range_succ, List.map_append]
        exact hF6.2.app (Txts.one _ _)
      · intro zs mz s6 hF6 D6
        refine comp_none D5 D6 ?_
        intro s7 D7
        (with_reducible refine sp_nil ?_)
        refine c_sortT D7 (lst_is (D7.at 0 rfl)) hF6.2 (by rw [List.length_map, List.length_range]; first | with_reducible exact Nat.lt_of_le_of_lt ‹_› (by decide) | lia | omega) ?_
        intro b3 s8 qv qs n8 D8 hq hp hw
        have e := sorted_eq hp hw
        rw [e] at hF
        have hsm : ∀ t ∈ qs, ∀ c ∈ t, c ≤ 1000 := fun t ht c hc => by
          obtain ⟨p, _, rfl⟩ := List.mem_map.mp (hp.mem_iff.mp ht)
          exact small p c hc
        refine l_neT (lst_is (D8.at 2 rfl)) (lst_is (D8.at 0 rfl)) hF hq hsm hsm hun ?_
        (with_reducible refine wpAny_truthy_bool ?_)
        exact k9 _ _ ⟨by simp, ((D8.erase 0).erase 0).erase 0⟩
  intro _ s5 D5
  refine x_nil ?_
  exact k s5 D5
theorem rev_get {α : Type} {l : List α} {i : Nat} {x : α} (h : l.reverse[i]? = some x) : i < l.length ∧ l[l.length - 1 - i]? = some x := by
  have hl := (List.getElem?_eq_some_iff.mp h).1
  rw [List.length_reverse] at hl
  rw [List.getElem?_reverse hl] at h
  exact ⟨hl, h⟩
theorem law_d3 (G : Gnd w mg mb B) (O : Ok B s₀.heap) (r : Room 7 A) (T : TextOk tx) (d2 : o2.data = .cell (some (.str (S tx) tt))) (hrs : Nats rs (rsOf tx))
    (D : Act B s₀ s₀.heap.objs.size (l10 al sa ta ra sy gs wy la he rc) (nE s₀ rc he la rs hs ls n3 n2 n1 gs sy ta vs us tv m n nT o2) T0 s)
    (k : ∀ s', Act B s₀ s₀.heap.objs.size (l10 al sa ta ra sy gs wy la he rc) (nF s₀ rc la rs ls n3 n1 gs sy ta vs us tv m n nT o2) T0 s' →
      wpAny (model PR w) A (execs (lawBody.drop 17) (lawEnv s₀.heap.objs.size)) Q no s') :
    wpAny (model PR w) A (execs (lawBody.drop 14) (lawEnv s₀.heap.objs.size)) Q no s := by
  have hun : A.units + 64 < cLine := by have := r.un; show A.units + 64 < 9900; first | with_reducible exact s56 ‹_› | lia | omega
  have hn3 := T.n3
  have hrsl := hrs.len
  rw [reachTo_len] at hrsl
  refine x_assignK ?_
  intro K9 k9
  refine List_ ?_
  ((with_reducible refine sp_cons ?_ ?he); (case he => exact rfl))
  ((with_reducible refine' e_int ?D ?_); (case D => assumption); intro _ _ _)
  (with_reducible refine sp_nil ?_)
  refine n_list (by assumption) (by simp) ?_
  intro ne s2 D2
  refine k9 _ _ ?_
  refine stL D2 ?_ rfl rfl
  intro s3 D3
  have D3 : Act B s₀ s₀.heap.objs.size (l10 al sa ta ra sy gs wy la he rc ++ [(Str.ofString "needs", .ref ne)]) ((ne, lst [.int (0 : Nat) _] 0) :: nF s₀ rc la rs ls n3 n1 gs sy ta vs us tv m n nT o2) T0 s3 := D3.erase 2
  clear D2 D
  refine x_forW (fun I k s' => ∃ j o b1 wv mw, k = tx.length - j ∧ j ≤ tx.length ∧ LI b1 j o ∧ b1 < I ∧ Nats wv (needL (rsOf tx) tx.length j) ∧
    Act B s₀ s₀.heap.objs.size (l10 al sa ta ra sy gs wy la he rc ++ [(Str.ofString "needs", .ref ne)]) ((I, o) :: (b1, lst rs.reverse 0) :: (ne, lst wv mw) :: nF s₀ rc la rs ls n3 n1 gs sy ta vs us tv m n nT o2) T0 s') ?_ ?_
  · intro K9 k9
    (with_reducible refine Subscript_ ?_)
    ((with_reducible refine' nmQ ?D ?v ?_ ?o ?L); (case L => exact rfl); (case o => exact Eq.refl true); (case D => assumption); (case v => exact rfl))
    refine wpAny_Slice ?_
    refine evalPart_none_step ?_
    refine evalPart_none_step ?_
    refine evalPart_some_step ?_
    (with_reducible refine PyProof.Rows.UnaryOp_ ?_)
    ((with_reducible refine' e_int ?D ?_); (case D => assumption); intro _ _ _)
    ((with_reducible refine' o_neg ?D ?_); (case D => assumption); intro _ _ _)
    refine l_slice (ys := rs.reverse) (by assumption) (lst_is (Act.at (by assumption) 1 rfl)) (by first | with_reducible exact Nat.le_trans (s10 ‹_ = _› ‹_›) (by decide) | lia | omega) .none .none (.int _ _) (by simp) (pick_rev _) ?_
    intro b1 s4 D4
    refine i_list D4 (lst_is (D4.at 0 rfl)) ?_
    intro I o s5 ho hlt D5
    exact k9 _ _ ⟨I, _, rfl, 0, o, b1, _, _, rfl, Nat.zero_le _, ho, hlt, Nats.one 0 _, D5⟩
  · rintro I k4 s4 ⟨j, o, b1, wv, mw, rfl, hj, ho, hbI, hwv, D4⟩
    intro W1 z1 r1
    have W := It.list (w := w) (I := I) (a := b1) r.hh (Nat.ne_of_lt hbI) rs.reverse
    have hwl := hwv.len
    rw [needL_len] at hwl
    by_cases hjl : j < tx.length
    · refine W.step D4 0 rfl ho (lst_is (D4.at 1 rfl)) (by rw [List.length_reverse]; first | lia | omega) ?_
      intro v s5 o' hv ho' D5
      obtain ⟨h1, h2⟩ := rev_get hv
      rw [hrsl] at h2
      obtain ⟨tq, hq⟩ := hrs.get (getD_some (l := rsOf tx) (i := tx.length - 1 - j) (by rw [reachTo_len]; first | with_reducible exact s5 ‹_› | lia | omega))
      rw [hq] at h2
      cases h2
      have R := rs_is (tx := tx) (p := tx.length - 1 - j) (by first | with_reducible exact s5 ‹_› | lia | omega)
      have Rl := R.le (by first | with_reducible exact s5 ‹_› | lia | omega)
      have hR := R.pos
      obtain ⟨re, hre⟩ : ∃ re, re = (rsOf tx).getD (tx.length - 1 - j) 0 := ⟨_, rfl⟩
      rw [← hre] at hR Rl
      rw [← hre]
      ((with_reducible refine' stL ?D ?_ ?hk ?hx ?hL); (case hL => exact rfl); (case D => assumption); (case hx => exact rfl); (case hk => exact rfl); intro _ _)
      refine x_exprK ?_
      intro K9 k9
      refine MethodCall_ ?_
      ((with_reducible refine' nmQ ?D ?v ?_ ?o ?L); (case L => exact rfl); (case o => exact Eq.refl true); (case D => assumption); (case v => exact rfl))
      refine m_list (Act.at (by assumption) 2 rfl) PySem.F.slot_list_insert PySem.F.type_list_insert ?_
      refine callWith_method1 ?_
      ((with_reducible refine sp_cons ?_ ?he); (case he => exact rfl))
      ((with_reducible refine' e_int ?D ?_); (case D => assumption); intro _ _ _)
      ((with_reducible refine sp_cons ?_ ?he); (case he => exact rfl))
      (with_reducible refine wpAny_BinOp ?_)
      ((with_reducible refine' e_int ?D ?_); (case D => assumption); intro _ _ _)
      (with_reducible refine Subscript_ ?_)
      ((with_reducible refine' nmQ ?D ?v ?_ ?o ?L); (case L => exact rfl); (case o => exact Eq.refl true); (case D => assumption); (case v => exact rfl))
      (with_reducible refine wpAny_BinOp ?_)
      ((with_reducible refine' nmQ ?D ?v ?_ ?o ?L); (case L => exact rfl); (case o => exact Eq.refl true); (case D => assumption); (case v => exact rfl))
      ((with_reducible refine' e_int ?D ?_); (case D => assumption); intro _ _ _)
      refine o_subK (k := ((re - 1 : Nat) : Int)) (by first | with_reducible exact s16 ‹_› | lia | omega) (by assumption) ?_
      intro s6 t6 D6
      obtain ⟨tz, hz⟩ := hwv.get (getD_some (l := needL (rsOf tx) tx.length j) (i := re - 1) (by rw [needL_len]; first | with_reducible exact t11 ‹_› ‹_› ‹_› | lia | omega))
      refine l_item (lst_is (D6.at 2 rfl)) hz (by first | decide | assumption | exact a1 ‹_› | exact a2 ‹_› | exact a3 ‹_› (by decide) | exact dl ‹_› | exact ee ‹_› ‹_› | lia | omega) ?_
      refine o_addK (k := ((1 + (needL (rsOf tx) tx.length j).getD (re - 1) 0 : Nat) : Int)) (by first | rfl | lia | omega) (by assumption) ?_
      intro s7 t7 D7
      (with_reducible refine sp_nil ?_)
      refine a_insert (by assumption) 2 rfl (by first | decide | assumption | exact a1 ‹_› | exact a2 ‹_› | exact a3 ‹_› (by decide) | exact dl ‹_› | exact ee ‹_› ‹_› | lia | omega) 0 (by rfl) (Nat.zero_le _) ?_
      intro s8 m8 D8
      refine k9 _ _ ?_
      refine ⟨fun a q => (by cases q), x_nil ?_⟩
      refine z1 _ ?_
      refine ⟨tx.length - (j + 1), by first | decide | assumption | exact a1 ‹_› | exact a2 ‹_› | exact a3 ‹_› (by decide) | exact dl ‹_› | exact ee ‹_› ‹_› | lia | omega, j + 1, o', b1, _, _, rfl, by first | decide | assumption | exact a1 ‹_› | exact a2 ‹_› | exact a3 ‹_› (by decide) | exact dl ‹_› | exact ee ‹_› ‹_› | lia | omega, ho', hbI, ?_, Act.pre (r := [(Str.ofString "reach", .int (re : Nat) tq)]) D8⟩
      rw [hre]
      exact (Nats.one _ _).app hwv
    · have hje : j = tx.length := by first | decide | assumption | exact a1 ‹_› | exact a2 ‹_› | exact a3 ‹_› (by decide) | exact dl ‹_› | exact ee ‹_› ‹_› | lia | omega
      subst hje
      refine W.end D4 0 rfl (by rw [List.length_reverse, hrsl]; exact ho) (lst_is (D4.at 1 rfl)) ?_
      intro s5 D5
      rw [need_is tx _ (Nat.le_refl _)] at hwv
      refine x_ifBK false (fun s' => Act B s₀ s₀.heap.objs.size (l10 al sa ta ra sy gs wy la he rc) (nF s₀ rc la rs ls n3 n1 gs sy ta vs us tv m n nT o2) T0 s') ?_ (fun h => by cases h) ?_
      · intro K9 k9
        ((with_reducible refine wpAny_isTrue_Compare1 ?_ ?hm); (case hm => with_unfolding_all rfl))
        ((with_reducible refine' nmQ ?D ?v ?_ ?o ?L); (case L => exact rfl); (case o => exact Eq.refl true); (case D => assumption); (case v => exact rfl))
        ((with_reducible refine' fn_Q ?G ?D g121 F121.2 ?_ ?hs ?he); (case hs => exact Eq.refl true); (case he => exact rfl); (case G => assumption); (case D => assumption))
        ((with_reducible refine sp_cons ?_ ?he); (case he => exact rfl))
        refine nmC ⟨o2, D5.at 7 rfl, d2⟩ rfl ?_
        (with_reducible refine sp_nil ?_)
        refine ⟨D5.ok, ?_⟩
        refine fewest_spec G D5.ok (r.weak (by decide)) (by first | with_reducible exact a3 ‹_› (by decide) | lia | omega) ?_
        intro s6 y ys n6 X6 hys
        have D6 := D5.take X6
        refine l_neN (lst_is (D6.at 2 rfl)) (lst_is (D6.at 0 rfl)) hwv hys hun ?_
        (with_reducible refine wpAny_truthy_bool ?_)
        exact k9 _ _ ⟨by simp, Act.pre (r := [(Str.ofString "needs", .ref ne)]) (((D6.erase 0).erase 0).erase 0)⟩
      intro _ s6 D6
      refine x_nil ?_
      exact k s6 D6
end
noncomputable abbrev l12 (al sa ta ra sy gs : Addr) (wy : Value) (la he rc cd sp : Addr) : List (Str × Value) := [(Str.ofString "script", .ref al), (Str.ofString "sizes", .ref sa), (Str.ofString "way", wy), (Str.ofString "tail", .ref ta), (Str.ofString "ruler", .ref ra), (Str.ofString "symbols", .ref sy), (Str.ofString "signs", .ref gs),
  (Str.ofString "laid", .ref la), (Str.ofString "heads", .ref he), (Str.ofString "reaches", .ref rc), (Str.ofString "code", .ref cd), (Str.ofString "spans", .ref sp)]
theorem pop_form {cur : List Nat} (hne : cur ≠ []) (h : (cur.take (cur.length - 1)).drop (cur.length - 2) = cur.drop (cur.length - 1)) : ∃ c x, cur = c ++ [x, x] := by
  have hpos : 0 < cur.length := List.length_pos_iff.mpr hne
  have hl := congrArg List.length h
  rw [List.length_drop, List.length_drop, List.length_take] at hl
  have h2 : 2 ≤ cur.length := by first | decide | assumption | exact a1 ‹_› | exact a2 ‹_› | exact a3 ‹_› (by decide) | exact dl ‹_› | exact ee ‹_› ‹_› | lia | omega
  have e1 : cur.drop (cur.length - 1) = [cur.getD (cur.length - 1) 0] := last_one (by first | decide | assumption | exact a1 ‹_› | exact a2 ‹_› | exact a3 ‹_› (by decide) | exact dl ‹_› | exact ee ‹_› ‹_› | lia | omega)
  refine ⟨cur.take (cur.length - 2), cur.getD (cur.length - 1) 0, ?_⟩
  have a : cur = cur.take (cur.length - 1) ++ cur.drop (cur.length - 1) := (List.take_append_drop ..).symm
  have b : cur.take (cur.length - 1) = cur.take (cur.length - 2) ++ (cur.take (cur.length - 1)).drop (cur.length - 2) := by
    conv => lhs; rw [← List.take_append_drop (cur.length - 2) (cur.take (cur.length - 1))]
    rw [List.take_take, Nat.min_eq_left (by first | with_reducible exact t19 | lia | omega)]
  rw [h, e1] at b
  rw [b, e1] at a
  rw [List.append_assoc] at a
  exact a
section
variable {w : World} {mg mb : Str → Option Value} {B : Heap} {A : Around} {s₀ s : Shared} {Q : Flow → Shared → Prop} {al sa ra ta sy gs la he rc cd sp : Addr} {o2 : Obj} {us vs tv ls rs cv zv : List Value} {n m nT n1 n3 nc nz : Nat} {tw : Tok} {tx syl cur : List Nat} {tt : Tok} {c0 : Int}
theorem law_e3 (G : Gnd w mg mb B) (O : Ok B s₀.heap) (r : Room 7 A) (T : TextOk tx) (hvs : Nats vs tx) (htv : Nats tv (tailOf c0)) (hcv : Nats cv (codeOf tx)) (hzv : Nats zv cur)
    (hp : twoB c0 = true ∧ Popped (spanOf tx) cur ∨ twoB c0 = false ∧ cur = spanOf tx)
    (D : Act B s₀ s₀.heap.objs.size (l12 al sa ta ra sy gs (.int (wayOf c0 : Nat) tw) la he rc cd sp) (nG s₀ sp cd zv cv nz nc gs sy ta vs us tv m n nT o2) T0 s)
    (k : ∀ s', Aft s₀ s' → Q (.ret (.bool true)) s') :
    wpAny (model PR w) A (execs (lawBody.drop 21) (lawEnv s₀.heap.objs.size)) Q no s := by
  have hun : A.units + 64 < cLine := by have := r.un; show A.units + 64 < 9900; first | with_reducible exact s56 ‹_› | lia | omega
  obtain ⟨p1, p2, p3, p4⟩ := popped_rd T hp
  have htl := htv.len
  have hzl := hzv.len
  have hcl := hcv.len
  have hc5 := (code_len T).2.1
  rw [List.length_append] at p1
  refine x_ret ?_
  ((with_reducible refine wpAny_Compare1 ?_ ?hm); (case hm => with_unfolding_all rfl))
  ((with_reducible refine' fn_Q ?G ?D g100 F100.2 ?_ ?hs ?he); (case hs => exact Eq.refl true); (case he => exact rfl); (case G => assumption); (case D => assumption))
  ((with_reducible refine sp_cons ?_ ?he); (case he => exact rfl))
  (with_reducible refine wpAny_BinOp ?_)
  ((with_reducible refine' nmQ ?D ?v ?_ ?o ?L); (case L => exact rfl); (case o => exact Eq.refl true); (case D => assumption); (case v => exact rfl))
  refine List_ ?_
  ((with_reducible refine sp_cons ?_ ?he); (case he => exact rfl))
  ((with_reducible refine' e_int ?D ?_); (case D => assumption); intro _ _ _)
  (with_reducible refine sp_nil ?_)
  refine n_list (by assumption) (by simp) ?_
  intro b1 s2 D2
  refine l_add D2 (D2.at 2 rfl) (D2.at 0 rfl) (by first | with_reducible exact Nat.le_trans (s10 ‹_ = _› ‹_›) (by decide) | lia | omega) (by simp) ?_
  intro b2 s3 D3
  ((with_reducible refine sp_cons ?_ ?he); (case he => exact rfl))
  (with_reducible refine wpAny_BinOp ?_)
  ((with_reducible refine' nmQ ?D ?v ?_ ?o ?L); (case L => exact rfl); (case o => exact Eq.refl true); (case D => assumption); (case v => exact rfl))
  ((with_reducible refine' nmQ ?D ?v ?_ ?o ?L); (case L => exact rfl); (case o => exact Eq.refl true); (case D => assumption); (case v => exact rfl))
  refine l_add D3 (D3.at 2 rfl) (D3.at 6 rfl) (by first | decide | assumption | exact a1 ‹_› | exact a2 ‹_› | exact a3 ‹_› (by decide) | exact dl ‹_› | exact ee ‹_› ‹_› | lia | omega) (by first | decide | assumption | exact a1 ‹_› | exact a2 ‹_› | exact a3 ‹_› (by decide) | exact dl ‹_› | exact ee ‹_› ‹_› | lia | omega) ?_
  intro b3 s4 D4
  (with_reducible refine sp_nil ?_)
  refine ⟨D4.ok, ?_⟩
  refine read_spec (syms := codeOf tx) (ruler := cur ++ tailOf c0) G D4.ok (r.weak (by decide)) (lst_is (D4.at 1 rfl)) (hcv.app (Nats.one 0 _)) (lst_is (D4.at 0 rfl)) (hzv.app htv) (by rw [List.length_append]; first | assumption | lia | omega) p2 p3 ?_
  intro s5 y ys n5 X5 hys
  have D5 := D4.take X5
  rw [p4] at hys
  ((with_reducible refine' nmQ ?D ?v ?_ ?o ?L); (case L => exact rfl); (case o => exact Eq.refl true); (case D => assumption); (case v => exact rfl))
  refine l_eqN (lst_is (D5.at 0 rfl)) (lst_is (D5.at 6 rfl)) hys hvs hun ?_
  rw [show (tx == tx) = true by simp]
  exact k _ D5.done
theorem law_e2 (G : Gnd w mg mb B) (O : Ok B s₀.heap) (r : Room 7 A) (T : TextOk tx) (hvs : Nats vs tx) (htv : Nats tv (tailOf c0)) (hcv : Nats cv (codeOf tx)) (hzv : Nats zv (spanOf tx))
    (D : Act B s₀ s₀.heap.objs.size (l12 al sa ta ra sy gs (.int (wayOf c0 : Nat) tw) la he rc cd sp) (nG s₀ sp cd zv cv nz nc gs sy ta vs us tv m n nT o2) T0 s)
    (k : ∀ s', Aft s₀ s' → Q (.ret (.bool true)) s') :
    wpAny (model PR w) A (execs (lawBody.drop 20) (lawEnv s₀.heap.objs.size)) Q no s := by
  have hun : A.units + 64 < cLine := by have := r.un; show A.units + 64 < 9900; first | with_reducible exact s56 ‹_› | lia | omega
  have cl := code_len T
  have hsne : spanOf tx ≠ [] := List.length_pos_iff.mp (by first | decide | assumption | exact a1 ‹_› | exact a2 ‹_› | exact a3 ‹_› (by decide) | exact dl ‹_› | exact ee ‹_› ‹_› | lia | omega)
  refine x_whileW (fun i s' => ∃ cur zv nz, cur.length ≤ i ∧ cur.length ≤ 5 ∧ (twoB c0 = true ∧ Popped (spanOf tx) cur ∨ twoB c0 = false ∧ cur = spanOf tx) ∧ Nats zv cur ∧
      Act B s₀ s₀.heap.objs.size (l12 al sa ta ra sy gs (.int (wayOf c0 : Nat) tw) la he rc cd sp) (nG s₀ sp cd zv cv nz nc gs sy ta vs us tv m n nT o2) T0 s') ?_ 5
    ⟨spanOf tx, zv, nz, by first | decide | assumption | exact a1 ‹_› | exact a2 ‹_› | exact a3 ‹_› (by decide) | exact dl ‹_› | exact ee ‹_› ‹_› | lia | omega, by first | decide | assumption | exact a1 ‹_› | exact a2 ‹_› | exact a3 ‹_› (by decide) | exact dl ‹_› | exact ee ‹_› ‹_› | lia | omega, by
      cases h : twoB c0 with
      | true => exact .inl ⟨rfl, Popped.refl hsne⟩
      | false => exact .inr ⟨rfl, rfl⟩, hzv, D⟩
  clear hzv D
  rintro i s2 ⟨cur, zv, nz, hci, hc5, hp, hzv, D2⟩
  intro W1 z1 r1 K8 k8
  have hzl := hzv.len
  refine wpAny_isTrue_BoolOp ?_
  refine wpAny_allTrue_And_cons ?_
  ((with_reducible refine wpAny_isTrue_Compare1 ?_ ?hm); (case hm => with_unfolding_all rfl))
  ((with_reducible refine' nmQ ?D ?v ?_ ?o ?L); (case L => exact rfl); (case o => exact Eq.refl true); (case D => assumption); (case v => exact rfl))
  refine Tuple_ ?_
  ((with_reducible refine sp_cons ?_ ?he); (case he => exact rfl))
  ((with_reducible refine' e_int ?D ?_); (case D => assumption); intro _ _ _)
  ((with_reducible refine sp_cons ?_ ?he); (case he => exact rfl))
  ((with_reducible refine' e_int ?D ?_); (case D => assumption); intro _ _ _)
  (with_reducible refine sp_nil ?_)
  refine n_tup (by assumption) (by simp) ?_
  intro tp s3 D3
  refine o_in2 (D3.at 0 rfl) hun ?_
  rw [twoB_is]
  (with_reducible refine wpAny_truthy_bool ?_)
  have D3 : Act B s₀ s₀.heap.objs.size (l12 al sa ta ra sy gs (.int (wayOf c0 : Nat) tw) la he rc cd sp) (nG s₀ sp cd zv cv nz nc gs sy ta vs us tv m n nT o2) T0 s3 := D3.erase 0
  by_cases h2 : twoB c0 = true
  · rw [if_pos h2]
    have hpp : Popped (spanOf tx) cur := by
      rcases hp with ⟨_, hp⟩ | ⟨hp, _⟩
      · exact hp
      · rw [h2] at hp; cases hp
    refine wpAny_allTrue_And_cons ?_
    ((with_reducible refine wpAny_isTrue_Compare1 ?_ ?hm); (case hm => with_unfolding_all rfl))
    (with_reducible refine Subscript_ ?_)
    ((with_reducible refine' nmQ ?D ?v ?_ ?o ?L); (case L => exact rfl); (case o => exact Eq.refl true); (case D => assumption); (case v => exact rfl))
    refine wpAny_Slice ?_
    refine evalPart_some_step ?_
    (with_reducible refine PyProof.Rows.UnaryOp_ ?_)
    ((with_reducible refine' e_int ?D ?_); (case D => assumption); intro _ _ _)
    ((with_reducible refine' o_neg ?D ?_); (case D => assumption); intro _ _ _)
    refine evalPart_some_step ?_
    (with_reducible refine PyProof.Rows.UnaryOp_ ?_)
    ((with_reducible refine' e_int ?D ?_); (case D => assumption); intro _ _ _)
    ((with_reducible refine' o_neg ?D ?_); (case D => assumption); intro _ _ _)
    refine evalPart_none_step ?_
    refine l_slice (ys := (zv.take (zv.length - 1)).drop (zv.length - 2)) (by assumption) (lst_is (Act.at (by assumption) 0 rfl)) (by first | with_reducible exact Nat.le_trans (s10 ‹_ = _› ‹_›) (by decide) | lia | omega) (.int _ _) (.int _ _) .none (by simp) (pick_tail2 _ 2 1 (by decide) (by decide)) ?_
    intro b1 s4 D4
    (with_reducible refine Subscript_ ?_)
    ((with_reducible refine' nmQ ?D ?v ?_ ?o ?L); (case L => exact rfl); (case o => exact Eq.refl true); (case D => assumption); (case v => exact rfl))
    refine wpAny_Slice ?_
    refine evalPart_some_step ?_
    (with_reducible refine PyProof.Rows.UnaryOp_ ?_)
    ((with_reducible refine' e_int ?D ?_); (case D => assumption); intro _ _ _)
    ((with_reducible refine' o_neg ?D ?_); (case D => assumption); intro _ _ _)
    refine evalPart_none_step ?_
    refine evalPart_none_step ?_
    refine l_slice (ys := zv.drop (zv.length - 1)) (by assumption) (lst_is (Act.at (by assumption) 1 rfl)) (by first | with_reducible exact Nat.le_trans (s10 ‹_ = _› ‹_›) (by decide) | lia | omega) (.int _ _) .none .none (by simp) (pick_tail _ 1 (by decide)) ?_
    intro b2 s5 D5
    refine l_eqN (ps := (cur.take (cur.length - 1)).drop (cur.length - 2)) (qs := cur.drop (cur.length - 1)) (lst_is (D5.at 1 rfl)) (lst_is (D5.at 0 rfl)) (by rw [hzl]; exact (hzv.take _).drop _) (by rw [hzl]; exact hzv.drop _) hun ?_
    (with_reducible refine wpAny_truthy_bool ?_)
    have D5 : Act B s₀ s₀.heap.objs.size (l12 al sa ta ra sy gs (.int (wayOf c0 : Nat) tw) la he rc cd sp) (nG s₀ sp cd zv cv nz nc gs sy ta vs us tv m n nT o2) T0 s5 := (D5.erase 0).erase 0
    by_cases he : ((cur.take (cur.length - 1)).drop (cur.length - 2) == cur.drop (cur.length - 1)) = true
    · rw [if_pos he]
      refine wpAny_allTrue_And_nil (k8 _ _ ⟨fun _ => ?_, fun h => by cases h⟩)
      obtain ⟨c, x, rfl⟩ := pop_form hpp.ne (by simpa using he)
      obtain ⟨zv', v, rfl⟩ : ∃ zv' v, zv = zv' ++ [v] := by
        have : zv ≠ [] := List.length_pos_iff.mp (by rw [hzl]; simp)
        exact ⟨zv.dropLast, zv.getLast this, (List.dropLast_concat_getLast this).symm⟩
      have hz' : Nats zv' (c ++ [x]) := by
        have := hzv.take (c.length + 1)
        rw [List.length_append, List.length_append] at hzl
        simp at hzl
        rw [List.take_append_of_le_length (by first | decide | assumption | exact a1 ‹_› | exact a2 ‹_› | exact a3 ‹_› (by decide) | exact dl ‹_› | exact ee ‹_› ‹_› | lia | omega), List.take_of_length_le (by first | with_reducible exact Nat.le_of_eq ‹_› | lia | omega), show c ++ [x, x] = (c ++ [x]) ++ [x] by simp, List.take_append_of_le_length (by simp), List.take_of_length_le (by simp)] at this
        exact this
      have hzl' := hz'.len
      obtain ⟨t9, rfl⟩ : ∃ t9, v = .int (x : Nat) t9 := by
        obtain ⟨t9, h9⟩ := hzv.get (i := c.length + 1) (p := x) (by simp)
        have hl9 : zv'.length = c.length + 1 := by rw [hzl']; simp
        rw [List.getElem?_append_right (by first | with_reducible exact Nat.le_of_eq ‹_› | lia | omega), show c.length + 1 - zv'.length = 0 by first | with_reducible exact t37 ‹_› | lia | omega] at h9
        cases h9
        exact ⟨t9, rfl⟩
      refine x_exprK ?_
      intro K9 k9
      refine MethodCall_ ?_
      ((with_reducible refine' nmQ ?D ?v ?_ ?o ?L); (case L => exact rfl); (case o => exact Eq.refl true); (case D => assumption); (case v => exact rfl))
      refine m_list (Act.at (by assumption) 0 rfl) PySem.F.slot_list_pop PySem.F.type_list_pop ?_
      refine callWith_method0 ?_
      refine a_pop D5 0 rfl (by rw [hzl', List.length_append, List.length_singleton]; rw [List.length_append] at hc5; first | lia | omega) ?_
      intro s6 n6 D6
      refine k9 _ _ ?_
      refine ⟨fun a q => (by cases q), x_nil ?_⟩
      refine z1 _ ?_
      refine ⟨i - 1, ?_, c ++ [x], zv', n6, ?_, ?_, .inl ⟨h2, hpp.step⟩, hz', D6⟩
      · rw [List.length_append] at hci; simp at hci; first | exact s2 ‹_› | lia | omega
      · rw [List.length_append] at hci ⊢; simp at hci ⊢; first | exact s3 ‹_› | lia | omega
      · rw [List.length_append] at hc5 ⊢; simp at hc5 ⊢; first | with_reducible exact Nat.le_succ_of_le ‹_› | lia | omega
    · rw [if_neg he]
      refine k8 _ _ ⟨fun h => (by cases h), fun _ => ?_⟩
      exact law_e3 G O r T hvs htv hcv hzv hp D5 k
  · rw [if_neg h2]
    refine k8 _ _ ⟨fun h => (by cases h), fun _ => ?_⟩
    exact law_e3 G O r T hvs htv hcv hzv hp D3 k
end
section
variable {w : World} {mg mb : Str → Option Value} {B : Heap} {A : Around} {s₀ s : Shared} {Q : Flow → Shared → Prop} {al sa ra ta sy gs la he rc cd sp : Addr} {o2 : Obj} {us vs tv ls rs cv zv : List Value} {n m nT n1 n3 nc nz : Nat} {tw : Tok} {tx syl cur : List Nat} {tt : Tok} {c0 : Int}
theorem law_e1 (G : Gnd w mg mb B) (O : Ok B s₀.heap) (r : Room 7 A) (T : TextOk tx) (d2 : o2.data = .cell (some (.str (S tx) tt))) (hvs : Nats vs tx) (hus : Nats us syl) (h5 : syl.length = 5) (hsy : ∀ z ∈ syl, 0 < z) (htv : Nats tv (tailOf c0))
    (hls : Nats ls (laidTo tx tx.length tx.length)) (hrs : Nats rs (rsOf tx))
    (D : Act B s₀ s₀.heap.objs.size (l10 al sa ta ra sy gs (.int (wayOf c0 : Nat) tw) la he rc) (nF s₀ rc la rs ls n3 n1 gs sy ta vs us tv m n nT o2) T0 s)
    (k : ∀ s', Aft s₀ s' → Q (.ret (.bool true)) s') :
    wpAny (model PR w) A (execs (lawBody.drop 17) (lawEnv s₀.heap.objs.size)) Q no s := by
  have hun : A.units + 64 < cLine := by have := r.un; show A.units + 64 < 9900; first | with_reducible exact s56 ‹_› | lia | omega
  have hn3 := T.n3
  have cl := code_len T
  refine x_unpack ?_
  ((with_reducible refine' fn_Q ?G ?D g126 F126.2 ?_ ?hs ?he); (case hs => exact Eq.refl true); (case he => exact rfl); (case G => assumption); (case D => assumption))
  ((with_reducible refine sp_cons ?_ ?he); (case he => exact rfl))
  refine nmC ⟨o2, D.at 5 rfl, d2⟩ rfl ?_
  ((with_reducible refine sp_cons ?_ ?he); (case he => exact rfl))
  ((with_reducible refine' nmQ ?D ?v ?_ ?o ?L); (case L => exact rfl); (case o => exact Eq.refl true); (case D => assumption); (case v => exact rfl))
  ((with_reducible refine sp_cons ?_ ?he); (case he => exact rfl))
  ((with_reducible refine' nmQ ?D ?v ?_ ?o ?L); (case L => exact rfl); (case o => exact Eq.refl true); (case D => assumption); (case v => exact rfl))
  (with_reducible refine sp_nil ?_)
  refine ⟨D.ok, ?_⟩
  refine code_spec (laid := laidTo tx tx.length tx.length) (rs := rsOf tx) G D.ok (r.weak (by decide)) (by first | decide | assumption | exact a1 ‹_› | exact a2 ‹_› | exact a3 ‹_› (by decide) | exact dl ‹_› | exact ee ‹_› ‹_› | lia | omega) (lst_is (D.at 1 rfl)) hls (lst_is (D.at 0 rfl)) hrs (laidTo_len ..) (reachTo_len ..)
    (fun p hp => ⟨(rs_is hp).pos, (rs_is hp).le hp⟩) (fun p hp hnr => (code_ok (fun c hc => (abc_lt T.abc c hc).2) hp hnr).1) ?_
  intro s2 tp cd sp cv zv nc nz X2 hcv hzv
  have D2 := D.take X2
  refine a_tup D2 r.hh (D2.at 0 rfl) ?_
  intro s3 D3
  refine as_cons (wpAny_assign_Name ?_)
  ((with_reducible refine' stL ?D ?_ ?hk ?hx ?hL); (case hL => exact rfl); (case D => assumption); (case hx => exact rfl); (case hk => exact rfl); intro _ _)
  refine as_cons (wpAny_assign_Name ?_)
  refine stL (by assumption) ?_ rfl rfl
  intro s4 D4
  refine as_nil ?_
  have D4 : Act B s₀ s₀.heap.objs.size (l12 al sa ta ra sy gs (.int (wayOf c0 : Nat) tw) la he rc cd sp) (nG s₀ sp cd zv cv nz nc gs sy ta vs us tv m n nT o2) T0 s4 := ((D4.erase 0).erase 2).erase 2
  clear D3 D2 D X2
  have hcl : cv.length = (codeOf tx).length := hcv.len
  have hul := hus.len
  refine x_ifBK false (fun s' => Act B s₀ s₀.heap.objs.size (l12 al sa ta ra sy gs (.int (wayOf c0 : Nat) tw) la he rc cd sp) (nG s₀ sp cd zv cv nz nc gs sy ta vs us tv m n nT o2) T0 s') ?_ (fun h => by cases h) ?_
  · intro K9 k9
    ((with_reducible refine wpAny_isTrue_Compare1 ?_ ?hm); (case hm => with_unfolding_all rfl))
    ((with_reducible refine' nmQ ?D ?v ?_ ?o ?L); (case L => exact rfl); (case o => exact Eq.refl true); (case D => assumption); (case v => exact rfl))
    refine List_ ?_
    (with_reducible refine sp_nil ?_)
    refine n_list (by assumption) (by simp) ?_
    intro b1 s5 D5
    refine l_eqN (ps := codeOf tx) (qs := []) (lst_is (D5.at 2 rfl)) (lst_is (D5.at 0 rfl)) hcv .nil hun ?_
    (with_reducible refine wpAny_truthy_bool ?_)
    refine k9 _ _ ⟨?_, D5.erase 0⟩
    have : codeOf tx ≠ [] := List.length_pos_iff.mp (by first | exact ‹_ ∧ _›.1 | lia | omega)
    simpa using this
  intro _ s5 D5
  refine x_nil ?_
  have hall : Nats (cv ++ us) (codeOf tx ++ syl) := hcv.app hus
  have hpos : ∀ z ∈ codeOf tx ++ syl, 0 < z := fun z hz => by
    rcases List.mem_append.mp hz with h | h
    · exact code_pos T z h
    · exact hsy z h
  have hlen : (codeOf tx ++ syl).length ≤ 10 := by rw [List.length_append]; first | lia | omega
  have hvl := hall.len
  refine x_forW (fun I k s' => ∃ j o b1, k = (codeOf tx ++ syl).length - j ∧ j ≤ (codeOf tx ++ syl).length ∧ LI b1 j o ∧ b1 < I ∧
      Act B s₀ s₀.heap.objs.size (l12 al sa ta ra sy gs (.int (wayOf c0 : Nat) tw) la he rc cd sp) ((I, o) :: (b1, lst (cv ++ us) 0) :: nG s₀ sp cd zv cv nz nc gs sy ta vs us tv m n nT o2) T0 s') ?_ ?_
  · intro K9 k9
    (with_reducible refine wpAny_BinOp ?_)
    ((with_reducible refine' nmQ ?D ?v ?_ ?o ?L); (case L => exact rfl); (case o => exact Eq.refl true); (case D => assumption); (case v => exact rfl))
    ((with_reducible refine' nmQ ?D ?v ?_ ?o ?L); (case L => exact rfl); (case o => exact Eq.refl true); (case D => assumption); (case v => exact rfl))
    refine l_add D5 (D5.at 1 rfl) (D5.at 3 rfl) (by first | decide | assumption | exact a1 ‹_› | exact a2 ‹_› | exact a3 ‹_› (by decide) | exact dl ‹_› | exact ee ‹_› ‹_› | lia | omega) (by first | decide | assumption | exact a1 ‹_› | exact a2 ‹_› | exact a3 ‹_› (by decide) | exact dl ‹_› | exact ee ‹_› ‹_› | lia | omega) ?_
    intro b1 s6 D6
    refine i_list D6 (lst_is (D6.at 0 rfl)) ?_
    intro I o s7 ho hlt D7
    exact k9 _ _ ⟨I, _, rfl, 0, o, b1, rfl, Nat.zero_le _, ho, hlt, D7⟩
  · rintro I k6 s6 ⟨j, o, b1, rfl, hj, ho, hbI, D6⟩
    intro W1 z1 r1
    have W := It.list (w := w) (I := I) (a := b1) r.hh (Nat.ne_of_lt hbI) (cv ++ us)
    by_cases hjl : j < (codeOf tx ++ syl).length
    · refine W.step D6 0 rfl ho (lst_is (D6.at 1 rfl)) (by first | decide | assumption | exact a1 ‹_› | exact a2 ‹_› | exact a3 ‹_› (by decide) | exact dl ‹_› | exact ee ‹_› ‹_› | lia | omega) ?_
      intro v s7 o' hv ho' D7
      obtain ⟨tq, hq⟩ := hall.get (getD_some (l := codeOf tx ++ syl) (i := j) hjl)
      have hxp := hpos _ (getD_mem (l := codeOf tx ++ syl) (i := j) hjl)
      rw [hv] at hq
      cases hq
      generalize (codeOf tx ++ syl).getD j 0 = x at *
      refine stL D7 ?_ rfl rfl
      intro s8 D8
      have D8 : Act B s₀ s₀.heap.objs.size (l12 al sa ta ra sy gs (.int (wayOf c0 : Nat) tw) la he rc cd sp ++ [(Str.ofString "symbol", .int (x : Nat) tq)]) ((I, o') :: (b1, lst (cv ++ us) 0) :: nG s₀ sp cd zv cv nz nc gs sy ta vs us tv m n nT o2) T0 s8 := D8
      refine x_ifBK false (fun s' => Act B s₀ s₀.heap.objs.size (l12 al sa ta ra sy gs (.int (wayOf c0 : Nat) tw) la he rc cd sp ++ [(Str.ofString "symbol", .int (x : Nat) tq)]) ((I, o') :: (b1, lst (cv ++ us) 0) :: nG s₀ sp cd zv cv nz nc gs sy ta vs us tv m n nT o2) T0 s') ?_ (fun h => by cases h) ?_
      · intro K9 k9
        refine wpAny_isTrue_BoolOp ?_
        refine wpAny_allTrue_Or_cons ?_
        refine wpAny_isTrue_value ?_
        ((with_reducible refine' fn_Q ?G ?D g35 F35.2 ?_ ?hs ?he); (case hs => exact Eq.refl true); (case he => exact rfl); (case G => assumption); (case D => assumption))
        ((with_reducible refine sp_cons ?_ ?he); (case he => exact rfl))
        (with_reducible refine PyProof.Rows.UnaryOp_ ?_)
        ((with_reducible refine' nmQ ?D ?v ?_ ?o ?L); (case L => exact rfl); (case o => exact Eq.refl true); (case D => assumption); (case v => exact rfl))
        ((with_reducible refine' o_neg ?D ?_); (case D => assumption); intro _ _ _)
        (with_reducible refine sp_nil ?_)
        refine ⟨Act.ok (by assumption), ?_⟩
        refine eof_spec G (Act.ok (by assumption)) (r.weak (by decide)) ?_
        intro s9 X9
        have D9 := Act.aft (by assumption) X9
        (with_reducible refine wpAny_truthy_bool ?_)
        rw [if_neg (by simp; first | lia | omega)]
        refine wpAny_allTrue_Or_cons ?_
        refine wpAny_isTrue_value ?_
        ((with_reducible refine' fn_Q ?G ?D g28 F28.2 ?_ ?hs ?he); (case hs => exact Eq.refl true); (case he => exact rfl); (case G => assumption); (case D => assumption))
        ((with_reducible refine sp_cons ?_ ?he); (case he => exact rfl))
        (with_reducible refine PyProof.Rows.UnaryOp_ ?_)
        ((with_reducible refine' nmQ ?D ?v ?_ ?o ?L); (case L => exact rfl); (case o => exact Eq.refl true); (case D => assumption); (case v => exact rfl))
        ((with_reducible refine' o_neg ?D ?_); (case D => assumption); intro _ _ _)
        (with_reducible refine sp_nil ?_)
        refine ⟨Act.ok (by assumption), ?_⟩
        refine nont_spec G (Act.ok (by assumption)) (r.weak (by decide)) ?_
        intro s10 X10
        have D10 := Act.aft (by assumption) X10
        (with_reducible refine wpAny_truthy_bool ?_)
        rw [if_neg (by simp; first | lia | omega)]
        refine wpAny_allTrue_Or_cons ?_
        refine wpAny_isTrue_Not ?_
        refine wpAny_isTrue_value ?_
        ((with_reducible refine' fn_Q ?G ?D g21 F21.2 ?_ ?hs ?he); (case hs => exact Eq.refl true); (case he => exact rfl); (case G => assumption); (case D => assumption))
        ((with_reducible refine sp_cons ?_ ?he); (case he => exact rfl))
        (with_reducible refine PyProof.Rows.UnaryOp_ ?_)
        ((with_reducible refine' nmQ ?D ?v ?_ ?o ?L); (case L => exact rfl); (case o => exact Eq.refl true); (case D => assumption); (case v => exact rfl))
        ((with_reducible refine' o_neg ?D ?_); (case D => assumption); intro _ _ _)
        (with_reducible refine sp_nil ?_)
        refine ⟨Act.ok (by assumption), ?_⟩
        refine term_spec G (Act.ok (by assumption)) (r.weak (by decide)) ?_
        intro s11 X11
        have D11 := Act.aft (by assumption) X11
        (with_reducible refine wpAny_truthy_bool ?_)
        rw [if_neg (by simp; first | lia | omega)]
        exact wpAny_allTrue_Or_nil (k9 _ _ ⟨rfl, D11⟩)
      intro _ s9 D9
      refine x_nil ?_
      refine x_ifBK false (fun s' => Act B s₀ s₀.heap.objs.size (l12 al sa ta ra sy gs (.int (wayOf c0 : Nat) tw) la he rc cd sp ++ [(Str.ofString "symbol", .int (x : Nat) tq)]) ((I, o') :: (b1, lst (cv ++ us) 0) :: nG s₀ sp cd zv cv nz nc gs sy ta vs us tv m n nT o2) T0 s') ?_ (fun h => by cases h) ?_
      · intro K9 k9
        refine wpAny_isTrue_BoolOp ?_
        refine wpAny_allTrue_Or_cons ?_
        refine wpAny_isTrue_value ?_
        ((with_reducible refine' fn_Q ?G ?D g35 F35.2 ?_ ?hs ?he); (case hs => exact Eq.refl true); (case he => exact rfl); (case G => assumption); (case D => assumption))
        ((with_reducible refine sp_cons ?_ ?he); (case he => exact rfl))
        (with_reducible refine wpAny_BinOp ?_)
        ((with_reducible refine' e_int ?D ?_); (case D => assumption); intro _ _ _)
        ((with_reducible refine' nmQ ?D ?v ?_ ?o ?L); (case L => exact rfl); (case o => exact Eq.refl true); (case D => assumption); (case v => exact rfl))
        refine o_mulK (z := ((256 * x : Nat) : Int)) (by first | exact rfl | lia | omega) (by first | decide | assumption | exact a1 ‹_› | exact a2 ‹_› | exact a3 ‹_› (by decide) | exact dl ‹_› | exact ee ‹_› ‹_› | lia | omega) (by assumption) ?_
        intro s10 t10 D10
        (with_reducible refine sp_nil ?_)
        refine ⟨D10.ok, ?_⟩
        refine eof_spec G D10.ok (r.weak (by decide)) ?_
        intro s11 X11
        have D11 := D10.aft X11
        (with_reducible refine wpAny_truthy_bool ?_)
        rw [if_neg (by simp; first | lia | omega)]
        refine wpAny_allTrue_Or_cons ?_
        refine wpAny_isTrue_value ?_
        ((with_reducible refine' fn_Q ?G ?D g21 F21.2 ?_ ?hs ?he); (case hs => exact Eq.refl true); (case he => exact rfl); (case G => assumption); (case D => assumption))
        ((with_reducible refine sp_cons ?_ ?he); (case he => exact rfl))
        (with_reducible refine wpAny_BinOp ?_)
        ((with_reducible refine' e_int ?D ?_); (case D => assumption); intro _ _ _)
        ((with_reducible refine' nmQ ?D ?v ?_ ?o ?L); (case L => exact rfl); (case o => exact Eq.refl true); (case D => assumption); (case v => exact rfl))
        refine o_mulK (z := ((256 * x : Nat) : Int)) (by first | exact rfl | lia | omega) (by first | decide | assumption | exact a1 ‹_› | exact a2 ‹_› | exact a3 ‹_› (by decide) | exact dl ‹_› | exact ee ‹_› ‹_› | lia | omega) (by assumption) ?_
        intro s12 t12 D12
        (with_reducible refine sp_nil ?_)
        refine ⟨D12.ok, ?_⟩
        refine term_spec G D12.ok (r.weak (by decide)) ?_
        intro s13 X13
        have D13 := D12.aft X13
        (with_reducible refine wpAny_truthy_bool ?_)
        rw [if_neg (by simp; first | lia | omega)]
        refine wpAny_allTrue_Or_cons ?_
        refine wpAny_isTrue_Not ?_
        refine wpAny_isTrue_value ?_
        ((with_reducible refine' fn_Q ?G ?D g28 F28.2 ?_ ?hs ?he); (case hs => exact Eq.refl true); (case he => exact rfl); (case G => assumption); (case D => assumption))
        ((with_reducible refine sp_cons ?_ ?he); (case he => exact rfl))
        (with_reducible refine wpAny_BinOp ?_)
        ((with_reducible refine' e_int ?D ?_); (case D => assumption); intro _ _ _)
        ((with_reducible refine' nmQ ?D ?v ?_ ?o ?L); (case L => exact rfl); (case o => exact Eq.refl true); (case D => assumption); (case v => exact rfl))
        refine o_mulK (z := ((256 * x : Nat) : Int)) (by first | exact rfl | lia | omega) (by first | decide | assumption | exact a1 ‹_› | exact a2 ‹_› | exact a3 ‹_› (by decide) | exact dl ‹_› | exact ee ‹_› ‹_› | lia | omega) (by assumption) ?_
        intro s14 t14 D14
        (with_reducible refine sp_nil ?_)
        refine ⟨D14.ok, ?_⟩
        refine nont_spec G D14.ok (r.weak (by decide)) ?_
        intro s15 X15
        have D15 := D14.aft X15
        (with_reducible refine wpAny_truthy_bool ?_)
        rw [if_neg (by simp; first | lia | omega)]
        exact wpAny_allTrue_Or_nil (k9 _ _ ⟨rfl, D15⟩)
      intro _ s10 D10
      refine x_nil (x_nil ?_)
      refine z1 _ ?_
      exact ⟨(codeOf tx ++ syl).length - (j + 1), by first | decide | assumption | exact a1 ‹_› | exact a2 ‹_› | exact a3 ‹_› (by decide) | exact dl ‹_› | exact ee ‹_› ‹_› | lia | omega, j + 1, o', b1, rfl, by first | decide | assumption | exact a1 ‹_› | exact a2 ‹_› | exact a3 ‹_› (by decide) | exact dl ‹_› | exact ee ‹_› ‹_› | lia | omega, ho', hbI, Act.pre (r := [(Str.ofString "symbol", .int (x : Nat) tq)]) D10⟩
    · have hje : j = (codeOf tx ++ syl).length := by first | decide | assumption | exact a1 ‹_› | exact a2 ‹_› | exact a3 ‹_› (by decide) | exact dl ‹_› | exact ee ‹_› ‹_› | lia | omega
      subst hje
      refine W.end D6 0 rfl (by rw [hvl]; exact ho) (lst_is (D6.at 1 rfl)) ?_
      intro s7 D7
      exact law_e2 G O r T hvs htv hcv hzv (D7.erase 0) k
end
section
variable {w : World} {mg mb : Str → Option Value} {B : Heap} {A : Around} {s s' s₁ : Shared} {R : Result → Shared → Prop}
theorem law_spec (G : Gnd w mg mb B) (O : Ok B s.heap) (r : Room 8 A) {al : Addr} {xs : List Value} {is : List Int} (ha : s.heap.IsList al xs.toArray) (hi : IntsAre xs is) (hlen : is.length ≤ 63)
    (k : ∀ s', Aft s s' → R (.ok (.ret (.bool true))) s') : codeAny (model PR w) A (.call (.ref 131) ⟨[.ref al], []⟩) R s := by
  refine enterC (fd := F131.1) (body := lawBody) (binds := [(Str.ofString "script", .ref al)]) G O r (F131.2 w) cd131 rfl (BindsTo.of_eq (by rfl)) (by rfl) (by decide) ?_
  intro A s₁ X r
  obtain ⟨o1, o2, d1, d2, D⟩ := O.inCallC2 (l := [(Str.ofString "script", .ref al)]) (x1 := Str.ofString "cells") (x2 := Str.ofString "text") (v1 := none) (v2 := none) X (by rfl) (by rfl) (by rfl) (by rfl) (by
    intro y
    show (if y = Str.ofString "script" then _ else _) = _
    by_cases h1 : y = Str.ofString "script"
    · subst h1; rfl
    · rw [if_neg h1, List.lookup_cons, beq_eq_false_iff_ne.mpr h1]; rfl)
  clear X
  refine law_a G O r ha hi hlen d1 d2 D ?_
  clear D d1 d2 o1 o2
  intro s2 c0 c1 o1 o2 cl oc d1 d2 hoc D
  refine law_b G O r d1 hoc D ?_
  clear D
  intro s3 x0 x1 x2 sa sv nS ra rv nR ta tv nT tw h1 h2 h3 m1 m2 m3 D
  refine law_c G O r d1 d2 hoc h1 h2 h3 m1 m2 m3 D ?_
  clear D d2
  intro s4 sy us n gs vs m o2 tt hus hvs d2 D
  refine law_d1 G O r (text_ok c0 c1) d2 D ?_
  clear D
  intro s5 la he rc ls hs rs n1 n2 n3 hls hrs D
  refine law_d2 G O r (text_ok c0 c1) d2 hls D ?_
  clear D
  intro s6 D
  refine law_d3 G O r (text_ok c0 c1) d2 hrs D ?_
  clear D
  intro s7 D
  refine law_e1 G O r (text_ok c0 c1) d2 hvs hus (drawn_5 c0 c1).len ?_ h3 hls hrs D fun s' X => k s' X
  intro z hz
  obtain ⟨j, hj, rfl⟩ := mem_getD hz
  exact (drawn_rd c0 c1).1.pos j hj
theorem oldK_of (hT : TabsAt [(106, 102)] s₁.heap) (X : Aft s₁ s') : OldK s₁.heap s'.heap := by
  have hP := (hT _ (.head _)).2
  have hc := ((hT _ (.head _)).1.tab hP).isCodeTable
  have hq : ∃ ps, s'.heap.get? 102 = some (tabObj ps) := by
    rcases X.tab with t | ⟨_, _, _, _, t, _⟩
    · exact ⟨_, t⟩
    · exact ⟨_, t⟩
  obtain ⟨ps, hps⟩ := hq
  refine ⟨fun b o e => ?_, fun b o e => ?_⟩
  · by_cases hb : b = 102
    · subst hb
      rw [hP] at e
      cases e
      exact .inr (.inl ⟨hc, rfl, #[], ps, rfl, by rw [Array.empty_append]; exact hps⟩)
    · exact .inl (X.ext b o hb List.not_mem_nil e)
  · by_cases hb : b = 102
    · subst hb; exact ⟨_, hps⟩
    · exact ⟨o, X.ext b o hb List.not_mem_nil e⟩
theorem gnd_of {p : Program} {loose : List Str} {mean : ExcName → Option Value} (hT : TabsAt [(106, 102)] s₁.heap) (X : (KK w).In s₁.heap) (T : Top p loose mean mg mb s₁.heap) : Gnd w mg mb (ghostOf s₁.heap [(106, 102)]) where
  X := ghost_K hT X (by kernel_rfl)
  T := ⟨_, _, _, ghost_top hT T⟩
  C := by
    have := ghost_code hT
    exact (this : CodeAll [(106, 102)] _).1
  no := hideAll_none _ (.head _)
theorem ok_of (hT : TabsAt [(106, 102)] s₁.heap) : Ok (ghostOf s₁.heap [(106, 102)]) s₁.heap where
  base := fun b o e => of_hideAll _ e
  no := hideAll_none _ (.head _)
  low := Nat.le_of_eq (hideAll_size _ _)
  tab := .inl (hT _ (.head _)).2
end
end Mine
theorem PySem.Challenge.cw_uc0002_01_holds : PySem.Challenge.rw_uc0002_01.Holds :=
  Mine.hd (by
  k_fill
  intro w s₀ s₁ mg mb G Y fa o pm cd doc dV kV ho hd hcd hD hmg hg args vals as hpre hlay hrd hwl hlo
  have KX := km_in_of Y
  km_tabs Y
  have X := (Ground.X G).1
  have V := (Ground.X G).2
  refine Ground.open G ?_
  intro T B D TE TW
  try (refine guard_noD D (by decide +kernel) ?_; clear D)
  km_lay T hmg ho hd cd
  wrow_args hpre hlay hrd hwl hlo
  all_goals (
    first | refine callC_kw (enter_call ?_) | refine enter_call ?_)
  rename Heap.IsList _ _ _ => hL9
  rename IntsAre _ _ => hI9
  have hfa : mg (Str.ofString "law") = some (.ref 131) := mg_of KX (topRead_of T).g Mine.g131
  have hfe : (some (Value.ref fa)) = some (.ref 131) := hmg.symm.trans hfa
  cases hfe
  have G9 := Mine.gnd_of hT9 KX T
  have O9 := Mine.ok_of hT9
  refine Mine.law_spec G9 O9 ⟨rfl, by decide, by decide⟩ hL9 hI9 (by omega) ?_
  intro s' X9
  refine ⟨.inl ⟨.bool true, ofPy (.bool true), [], rfl, raisesW_false (by wrow_none_raised), readsW_of_reads (.bool true), ?_, unshared_nil⟩, Mine.oldK_of hT9 X9, X9.like.os, X9.like.gens (.of_eq hg)⟩
  exact postW_of (by wrow_shape) (by wtm_val) (by str_meet; first | done | w_fin))
