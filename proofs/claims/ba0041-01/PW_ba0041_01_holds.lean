import PyProof.Rows.All
import Wide.All
import OpenK.AllK
import Wide.FinOn
import Lean
import PySem.Challenge.RW_ba0041_01
open PySem PySem.W PyProof.Rows PySem.Spec PySem.Calls
set_option Elab.async false
set_option maxRecDepth 100000
namespace Mine
local macro_rules | `(tactic| walk_at $s:str) => `(tactic| k_extra $s)
local macro_rules | `(tactic| omega) => `(tactic| first | k_extra "MINE ar" | omega (config := {}))
set_option maxHeartbeats 8000000 in
open_top hd for PySem.Challenge.rw_ba0041_01

theorem words_ar_1 : True := by
  k_with_none
  w_top off
  exact True.intro
/-! ## Small facts of numbers: each stands for many calls of omega (a call of omega costs 500 to 2,500 nodes of the compiled file) -/
theorem ar_n1 {n : Nat} (h : n < 100) : n < 1000 := Nat.lt_trans h (by decide)
theorem ar_n2 {n : Nat} (h : n ≤ 20) : n < 1000 := Nat.lt_of_le_of_lt h (by decide)
theorem ar_n3 {n : Nat} (h : n < 100) : n ≤ 16777216 := Nat.le_trans (Nat.le_of_lt h) (by decide)
theorem ar_n4 {n : Nat} (h : n < 1000) : n ≤ 16777216 := Nat.le_trans (Nat.le_of_lt h) (by decide)
theorem ar_n5 {n : Nat} (h : n ≤ 20) : n ≤ 16777216 := Nat.le_trans h (by decide)
theorem ar_n6 {n : Nat} (h : n ≤ 20) : n < 100 := Nat.lt_of_le_of_lt h (by decide)
theorem ar_n7 {k n : Nat} (h1 : k ≤ n) (h2 : n ≤ 20) : k < 1000 := ar_n2 (Nat.le_trans h1 h2)
theorem ar_n8 {k n : Nat} (h1 : k < n) (h2 : n ≤ 20) : k < 1000 := ar_n2 (Nat.le_trans (Nat.le_of_lt h1) h2)
theorem ar_n9 {k n : Nat} (h1 : k ≤ n) (h2 : n ≤ 20) : k ≤ 20 := Nat.le_trans h1 h2
theorem ar_n10 {a k n : Nat} (h1 : a ≤ k) (h2 : k ≤ n) (h3 : n ≤ 20) : a ≤ 20 := Nat.le_trans h1 (Nat.le_trans h2 h3)
theorem ar_n11 {a k n : Nat} (h1 : a ≤ k) (h2 : k < n) (h3 : n ≤ 20) : a ≤ 20 := Nat.le_trans h1 (Nat.le_trans (Nat.le_of_lt h2) h3)
theorem ar_n12 {n : Nat} (h : n ≤ 14) : n + 1 < 1000 := Nat.lt_of_le_of_lt (Nat.succ_le_succ h) (by decide)
theorem ar_n13 {n : Nat} (h : n ≤ 16) : 2 + n < 1000 := by omega
theorem ar_n14 {a b n : Nat} (e : a = b) (h1 : b ≤ n) (h : n ≤ 20) : a < 1000 := by omega
theorem ar_n15 {a b k n : Nat} (e : a = b) (h1 : b ≤ k) (h2 : k ≤ n) (h : n ≤ 20) : a < 1000 := by omega
theorem ar_n16 {a b : Nat} (e : a = b) (h : b ≤ 20) : a < 1000 := by omega
theorem ar_n17 {a b : Nat} (e : a = b) (h : b ≤ 20) : a ≤ 16777216 := by omega
theorem ar_n18 {k : Nat} (h : k < 1000) : (k : Int) < 2 ^ 63 := by omega
theorem ar_n19 {k n : Nat} (h1 : k ≤ n) (h2 : n ≤ 20) : (k : Int) < 2 ^ 63 := by omega
theorem ar_k1 {k n : Nat} (h : (k : Int) < n) : k < n := Int.ofNat_lt.mp h
theorem ar_k2 {k n : Nat} (h : ¬ (n : Int) ≤ k) : k < n := Int.ofNat_lt.mp (Int.not_le.mp h)
theorem ar_k3 {k n : Nat} (h : k + 1 < n) : k < n := Nat.lt_of_succ_lt h
theorem ar_k4 {k n : Nat} (h : (k : Int) + 1 < n) : k + 1 < n := Int.ofNat_lt.mp h
theorem ar_k5 {k n : Nat} (h : ¬ (k : Int) < n) : ¬ k < n := fun q => h (Int.ofNat_lt.mpr q)
theorem ar_k6 {k n : Nat} (h : (n : Int) ≤ k) : ¬ k < n := fun q => absurd (Int.ofNat_lt.mpr q) (Int.not_lt.mpr h)
theorem ar_k7 {k n : Nat} (h : k + 1 < n) : k + 2 ≤ n := h
theorem ar_k8 {k n : Nat} (h : ¬ (n : Int) ≤ (k : Int) + 1) : k + 1 < n := Int.ofNat_lt.mp (Int.not_le.mp h)
theorem ar_k9 {k n : Nat} (h : k < n) : (k : Int) < n := Int.ofNat_lt.mpr h
theorem ar_k10 {k n : Nat} (h : k < n) : k + 1 ≤ n := h
theorem ar_k11 {k n : Nat} (h : ¬ k < n) : ¬ (k : Int) < n := fun q => h (Int.ofNat_lt.mp q)
theorem ar_k12 {k n : Nat} (h : n ≤ k) : ¬ (k : Int) < n := fun q => absurd (Int.ofNat_lt.mp q) (Nat.not_lt.mpr h)
theorem ar_k13 {k n : Nat} (h : ¬ (k : Int) < n) : n ≤ k := Int.ofNat_le.mp (Int.not_lt.mp h)
theorem ar_m1 {k n : Nat} (h : k < n) : n - (k + 1) < n - k := Nat.sub_lt_sub_left h (Nat.lt_succ_self k)
theorem ar_m2 {k n : Nat} (h : (k : Int) < n) : n - (k + 1) < n - k := ar_m1 (ar_k1 h)
theorem ar_m3 {k n : Nat} (h : k + 1 < n) : n - (k + 1) < n - k := ar_m1 (ar_k3 h)
theorem ar_m4 {k n : Nat} (h : k < n) : n - (k + 2) < n - k := Nat.sub_lt_sub_left h (Nat.lt_of_succ_lt (Nat.lt_succ_self (k + 1)))
theorem ar_m5 {k n : Nat} (h : k + 1 < n) : n - (k + 2) < n - k := ar_m4 (ar_k3 h)
theorem ar_e1 {a k : Nat} (h : a ≤ k) : a ≤ k + 1 := Nat.le_succ_of_le h
theorem ar_e2 {a k : Nat} (h : a ≤ k) : a ≤ k + 2 := Nat.le_succ_of_le (Nat.le_succ_of_le h)
theorem ar_e3 {a k : Nat} (h : a ≤ k) : a + 1 ≤ k + 1 := Nat.succ_le_succ h
theorem ar_e4 {a k : Nat} (h : a ≤ k) : a < k + 1 := Nat.lt_succ_of_le h
theorem ar_e5 {a k : Nat} (h : a + 1 ≤ k) : a < k + 1 := Nat.lt_succ_of_lt h
theorem ar_e6 {a k : Nat} (h : a + 1 ≤ k) : a ≤ k := Nat.le_of_lt h
theorem ar_e7 {a k : Nat} (h : a < k) : a ≤ k := Nat.le_of_lt h
theorem ar_e8 {a k : Nat} (h : a + 1 ≤ k) : a ≤ k + 1 := Nat.le_succ_of_le (Nat.le_of_lt h)
theorem ar_e9 {a b k : Nat} (h1 : a ≤ b) (h2 : b ≤ k) : a ≤ k := Nat.le_trans h1 h2
theorem ar_e10 {a b k : Nat} (h1 : a ≤ b) (h2 : b + 1 ≤ k) : a ≤ k := Nat.le_trans h1 (Nat.le_of_lt h2)
theorem ar_e11 {k : Nat} (h : 0 < k) : k = k - 1 + 1 := by omega
theorem ar_e12 {k : Nat} (h : ¬ (k : Int) = 0) : k = k - 1 + 1 := by omega
theorem ar_e13 {k : Nat} (h : (k : Int) = 0) : k = 0 := by omega
theorem ar_e14 {k : Nat} (h : ¬ (k : Int) = 0) : ¬ k = 0 := by omega
theorem ar_e15 {k : Nat} (h : ¬ (k : Int) ≠ 0) : k = 0 := by omega
theorem ar_e16 {k : Nat} (h : (k : Int) ≠ 0) : ¬ k = 0 := by omega
theorem ar_s1 {a b c : Nat} (h : a + b ≤ c) : b ≤ c := Nat.le_trans (Nat.le_add_left b a) h
theorem ar_s2 {a b : Nat} (h : a + b = 0) : b = 0 := by omega
theorem ar_r1 {d a R : Nat} (h : d + a < R) : d < R := Nat.lt_of_le_of_lt (Nat.le_add_right d a) h
theorem ar_r2 {d b a R : Nat} (h : d + a < R) (e : b ≤ a) : d + b < R := Nat.lt_of_le_of_lt (Nat.add_le_add_left e d) h
theorem ar_r3 {d b c a R : Nat} (h : d + a < R) (e : b + c ≤ a) : d + b + c < R := by rw [Nat.add_assoc]; exact ar_r2 h e
theorem ar_lv {lev k n : Nat} (h1 : lev ≤ k) (h2 : (k : Int) < n) (h3 : n ≤ 20) : ¬ (20 : Int) < (lev : Int) + 1 := by omega
theorem ar_f1 {k n : Nat} (h3 : (k : Int) ≠ n) (h1 : k ≤ n) (h2 : n ≤ k) : False := by omega
theorem ar_f2 {k n : Nat} (h3 : ¬ (k : Int) = n) (h1 : k ≤ n) (h2 : n ≤ k) : False := by omega
theorem ar_f3 {k n : Nat} (h3 : (k : Int) < n) (h2 : n ≤ k) : False := by omega
theorem ar_f4 {k n : Nat} (h3 : (k : Int) = n) (h2 : k < n) : False := by omega
theorem ar_c1 {c : Nat} (h1 : c = 92) (h : ¬ c = 92) : False := h h1
theorem ar_c2 {c : Nat} (h1 : c = 92) (h : c = 10 ∨ c = 13) : False := by omega
theorem ar_c3 {c : Nat} (h1 : c = 92) (h : c = 32 ∨ c = 9) : False := by omega
theorem ar_c4 {c : Nat} (h1 : c = 92) (h : c = 32 ∨ c = 9 ∨ c = 10 ∨ c = 13 ∨ c = 12) : False := by omega
theorem ar_c5 {c : Nat} (h1 : c = 92) (h : c = 60 ∨ c = 10 ∨ c = 13 ∨ c = 0) : False := by omega
theorem ar_c6 {c d : Nat} (h1 : c = 92) (h : c = d) (e : (d == 92) = false := by rfl) : False := by rw [h1] at h; rw [← h] at e; exact absurd e (by decide)
theorem ar_n20 {a n : Nat} (h1 : a ≤ n) (h2 : n < 100) : a < 100 := Nat.lt_of_le_of_lt h1 h2
theorem ar_n21 {a n : Nat} (h1 : a ≤ n) (h2 : n < 100) : a < 1000 := ar_n1 (ar_n20 h1 h2)
theorem ar_n22 {a b k n : Nat} (e : a = b) (h1 : b ≤ k) (h2 : k ≤ n) (h : n < 100) : a < 1000 := by rw [e]; exact ar_n21 (Nat.le_trans h1 h2) h
theorem ar_n23 {a b n : Nat} (e : a + b = n) (h : n ≤ 20) : a < 1000 := by omega
theorem ar_k14 {k n : Nat} (h : k + 1 < n) : ¬ (n : Int) < (k : Int) + 2 := by omega
theorem ar_e17 {a b k : Nat} (h1 : a ≤ b) (h2 : b + 1 ≤ k) : a < k + 1 := by omega
theorem ar_e18 {a b k : Nat} (h1 : a ≤ b) (h2 : b < k) : a ≤ k := Nat.le_trans h1 (Nat.le_of_lt h2)
theorem ar_e19 {a b k : Nat} (h1 : a ≤ b) (h2 : b ≤ k) : a < k + 1 := Nat.lt_succ_of_le (Nat.le_trans h1 h2)
theorem ar_s3 {a b c : Nat} (h1 : a + b ≤ c) (h2 : c ≤ 1) : b ≤ 1 := Nat.le_trans (ar_s1 h1) h2
theorem ar_s4 {b : Nat} (h : 1 + b ≤ 1) : b = 0 := by omega
theorem ar_f5 {k n : Nat} (h2 : k + 1 < n) (h : ¬ (k : Int) + 1 < n) : False := h (Int.ofNat_lt.mpr h2)
theorem ar_f6 {k n : Nat} (e : k = n) (h : ¬ (n : Int) ≤ k) : False := h (by rw [e]; exact Int.le_refl _)
theorem ar_f7 {x y : Int} (h : x ≠ y) (h' : x = y) : False := h h'
theorem ar_c7 {c : Nat} (h1 : c = 92) (h : ¬ ¬ (c = 32 ∨ c = 9 ∨ c = 10 ∨ c = 13 ∨ c = 12)) : False := ar_c4 h1 (Classical.not_not.mp h)
theorem ar_c8 {c : Nat} (h1 : c = 92) (h : c = 40) : False := by omega
theorem ar_c9 {c : Nat} (h1 : c = 92) (h : c = 41) : False := by omega
theorem ar_c10 {c : Nat} (h1 : c = 92) (h : c = 10) : False := by omega
theorem ar_c11 {c : Nat} (h1 : c = 92) (h : c = 60) : False := by omega
theorem ar_c12 {c : Nat} (h1 : c = 92) (h : c = 62) : False := by omega
theorem ar_c13 {c : Nat} (h1 : c = 92) (h : c = 39 ∨ c = 34 ∨ c = 40) : False := by omega
theorem ar_l1 {c x : Nat} (h1 : c = 92) (h : x ≠ 10 ∧ x ≠ 92 ∧ x ≠ 40) : ¬ c = x := fun e => h.2.1 (e.symm.trans h1)
theorem ar_l2 {c x : Nat} (h1 : c = 10) (h : x ≠ 10 ∧ x ≠ 92 ∧ x ≠ 40) : ¬ c = x := fun e => h.1 (e.symm.trans h1)
theorem ar_l3 {c x : Nat} (h1 : c = 40) (h : x ≠ 10 ∧ x ≠ 92 ∧ x ≠ 40) : ¬ c = x := fun e => h.2.2 (e.symm.trans h1)
theorem ar_i1 {p q : Prop} (h : ¬ p) : p → q := fun e => absurd e h
theorem ar_i2 {p q : Prop} (h : q) : p → q := fun _ => h
theorem ar_d {c m n : Nat} (h : c = m) (e : m ≠ n) : ¬ c = n := fun q => e (h.symm.trans q)
theorem ar_i3 {p : Prop} {c m n : Nat} (h : c = m) (e : m ≠ n) : p → ¬ c = n := fun _ => ar_d h e
theorem ar_i4 {a b : Prop} (h1 : a) (h2 : b) : a ∧ b := ⟨h1, h2⟩
theorem ar_i5 {k : Nat} : ((k + 1 : Nat) : Int) - 1 = (k : Int) := by omega
theorem ar_i6 {k : Nat} : ((k + 1 : Nat) : Int) + -1 = (k : Int) := by omega
theorem ar_i7 {k : Nat} : (k : Int) + 1 = ((k + 1 : Nat) : Int) := rfl
theorem ar_w1 {c : Nat} (h : ¬ (c = 32 ∨ c = 9 ∨ c = 10 ∨ c = 13 ∨ c = 12)) : ¬ c = 32 ∧ ¬ c = 10 := ⟨fun e => h (.inl e), fun e => h (.inr (.inr (.inl e)))⟩
theorem ar_w2 {c : Nat} (h : c = 10 ∨ 32 ≤ c ∧ c ≤ 122) : 10 ≤ c := by omega
theorem ar_w3 {c : Nat} (h : c = 32 ∨ c = 9 ∨ c = 10 ∨ c = 13 ∨ c = 12) (h0 : c = 10 ∨ 32 ≤ c ∧ c ≤ 122) : c = 32 ∨ c = 10 := by omega
theorem ar_w4 {c : Nat} (h1 : ¬ (c = 32 ∨ c = 9)) (h2 : ¬ (c = 10 ∨ c = 13)) : c ≠ 32 ∧ c ≠ 10 := ⟨fun e => h1 (.inl e), fun e => h2 (.inl e)⟩
theorem ar_w5 {c : Nat} (h : c = 32 ∨ c = 9) (h0 : c = 10 ∨ 32 ≤ c ∧ c ≤ 122) : c = 32 ∨ c = 10 := by omega
theorem ar_w6 {c : Nat} (h : c = 10 ∨ c = 13) (h0 : c = 10 ∨ 32 ≤ c ∧ c ≤ 122) : c = 10 := by omega
theorem ar_w7 {c : Nat} (h : ¬ (c = 32 ∨ c = 9)) : c ≠ 32 := fun e => h (.inl e)
theorem ar_w8 {c : Nat} (h : c = 10 ∨ 32 ≤ c ∧ c ≤ 122) : ¬ c = 13 := by omega
theorem ar_w9 {c : Nat} (h : c = 10 ∨ c = 13) (h0 : c = 10 ∨ 32 ≤ c ∧ c ≤ 122) : c = 32 ∨ c = 10 := .inr (ar_w6 h h0)
theorem ar_w10 {c : Nat} (h : ¬ (c = 60 ∨ c = 10 ∨ c = 13 ∨ c = 0)) : ¬ c = 60 ∧ ¬ c = 10 := ⟨fun e => h (.inl e), fun e => h (.inr (.inl e))⟩
theorem ar_w11 {c : Nat} (h : c = 60 ∨ c = 10 ∨ c = 13 ∨ c = 0) (h0 : c = 10 ∨ 32 ≤ c ∧ c ≤ 122) : c = 60 ∨ c = 10 := by omega
theorem ar_w12 {c : Nat} (h1 : c = 92) : ¬ c = 60 ∧ ¬ c = 10 := by omega
theorem ar_w13 {c : Nat} (h1 : c = 92) : ¬ c = 32 ∧ ¬ c = 10 := by omega
theorem ar_w14 {c : Nat} (h1 : c = 92) : ¬ (c = 60 ∨ c = 10 ∨ c = 13 ∨ c = 0) := by omega
theorem ar_w15 {c : Nat} (h : c = 10 ∨ 32 ≤ c ∧ c ≤ 122) : ¬ (c : Int) < 32 ∨ c = 10 := by omega
theorem ar_w16 {c : Nat} (h : c = 10 ∨ 32 ≤ c ∧ c ≤ 122) : ¬ c = 127 := by omega
theorem ar_w17 {c : Nat} (h : c = 10 ∨ 32 ≤ c ∧ c ≤ 122) (h' : ¬ (c = 32 ∨ c = 9 ∨ c = 10 ∨ c = 13 ∨ c = 12)) : ¬ (c : Int) < 32 := by omega
theorem ar_w18 {c : Nat} (h : c = 10 ∨ 32 ≤ c ∧ c ≤ 122) : ¬ c = 0 := by omega
theorem ar_w19 {c : Nat} (h : 10 ≤ c) : ¬ c = 0 := by omega
theorem ar_w20 {c : Nat} (h : ¬ (c = 32 ∨ c = 9 ∨ c = 10 ∨ c = 13 ∨ c = 12)) : c ≠ 10 := fun e => h (.inr (.inr (.inl e)))
theorem ar_o1 {c : Nat} (h : c = 39 ∨ c = 34 ∨ c = 40) : (c = 40 ∨ c = 34) ∨ c = 39 := by omega
theorem ar_o2 {c : Nat} (h : ¬ (c = 39 ∨ c = 34 ∨ c = 40)) : (¬ c = 40 ∧ ¬ c = 34) ∧ ¬ c = 39 := by omega
theorem ar_o3 {c : Nat} (h : c = 39 ∨ c = 34 ∨ c = 40) : c ≠ 92 := by omega
theorem ar_o4 {c : Nat} (h : c = 39 ∨ c = 34 ∨ c = 40) : c ≠ 10 := by omega
theorem ar_q1 {a d : Nat} {p : Prop} (h : a < d ∧ p) : d ≠ a := Nat.ne_of_gt h.1
theorem ar_q2 {a b d : Nat} {p : Prop} (h : b < d ∧ a < d ∧ p) : d ≠ a := Nat.ne_of_gt h.2.1
theorem ar_q3 {a b c d : Nat} {p : Prop} (h : b < d ∧ c < d ∧ a < d ∧ p) : d ≠ a := Nat.ne_of_gt h.2.2.1
theorem ar_q4 {a b c e d : Nat} {p : Prop} (h : b < d ∧ c < d ∧ e < d ∧ a < d ∧ p) : d ≠ a := Nat.ne_of_gt h.2.2.2.1
theorem ar_q5 {a d : Nat} (h : a ≠ d) : d ≠ a := fun e => h e.symm
theorem ar_z1 {a b n k k3 : Nat} (h1 : a = n - k3) (h2 : b = n - k) (h3 : ¬ (k : Int) < k3) (h4 : a ≤ b) : a = b := by omega
theorem ar_z2 {a b n k k3 : Nat} (h1 : a = n - k3) (h2 : b = n - k) (h3 : (k : Int) < k3) (h4 : k3 < n) : a < b := by omega
theorem ar_z3 {c : Nat} : 60 = c ∨ 62 = c ∨ 10 = c ↔ (c = 60 ∨ c = 62) ∨ c = 10 := by omega
theorem ar_z4 {c : Nat} : 40 = c ∨ 34 = c ∨ 39 = c ↔ (c = 40 ∨ c = 34) ∨ c = 39 := by omega
theorem ar_z5 {c : Nat} : 32 = c ∨ 10 = c ↔ c = 32 ∨ c = 10 := by omega
theorem ar_n24 {a n : Nat} (h1 : a ≤ n) (h2 : n ≤ 14) : a + 1 < 1000 := ar_n12 (Nat.le_trans h1 h2)
theorem ar_n25 {a b : Nat} (e : 1 = a + (b + 1)) : a ≤ 14 := by omega
theorem ar_n26 {a b n : Nat} (h1 : a ≤ b) (h2 : b ≤ n) (h3 : n < 100) : a < 100 := ar_n20 (Nat.le_trans h1 h2) h3
theorem ar_n27 {a b c : Nat} (h1 : a ≤ 3 * b) (h2 : b = c) (h3 : c ≤ 20) : a < 1000 := by omega
theorem ar_n28 {a b n : Nat} (h1 : n = a + b) (h2 : n ≤ 20) : a ≤ 20 := by omega
theorem ar_i8 {a b : Nat} (e : a = b + 2) : (a : Int) = (b : Int) + 2 := by rw [e]; rfl
theorem ar_e20 {a k : Nat} (h : a < k) : ¬ (k : Int) = 0 := by omega
theorem ar_f8 {k n : Nat} (q : k < n) (h : ¬ (k : Int) < n) : False := h (Int.ofNat_lt.mpr q)
theorem ar_f9 {k n : Nat} (q : k < n) (h : (n : Int) ≤ k) : False := absurd (Int.ofNat_lt.mpr q) (Int.not_lt.mpr h)
theorem ar_f10 {p : Prop} {c : Nat} (h1 : p ∧ c = 41) (h2 : p ∧ c = 40) : False := by omega
theorem ar_nn {p : Prop} (h : ¬ ¬ p) : p := Classical.not_not.mp h
theorem ar_nn2 {p : Prop} (h : p) : ¬ ¬ p := fun q => q h

theorem words_base_1 : True := by
  k_with_none
  w_top off
  k_with "MINE ar" => (with_reducible first | assumption | decide | ((show @LT.lt Nat _ _ _); first | exact ar_n1 (by assumption) | exact ar_n2 (by assumption) | exact ar_n6 (by assumption) | exact ar_n12 (by assumption) | exact ar_n13 (by assumption) | exact ar_k1 (by assumption) | exact ar_k2 (by assumption) | exact ar_k3 (by assumption) | exact ar_k4 (by assumption) | exact ar_k8 (by assumption) | exact ar_m1 (by assumption) | exact ar_m2 (by assumption) | exact ar_m3 (by assumption) | exact ar_m4 (by assumption) | exact ar_m5 (by assumption) | exact ar_e4 (by assumption) | exact ar_e5 (by assumption) | exact ar_r1 (by assumption) | exact Nat.lt_succ_self _ | exact ar_r2 (by assumption) (by decide) | exact ar_r3 (by assumption) (by decide) | exact ar_n7 (by assumption) (by assumption) | exact ar_n8 (by assumption) (by assumption) | exact ar_n16 (by assumption) (by assumption) | exact ar_n20 (by assumption) (by assumption) | exact ar_n21 (by assumption) (by assumption) | exact ar_n23 (by assumption) (by assumption) | exact ar_n24 (by assumption) (by assumption) | exact ar_e17 (by assumption) (by assumption) | exact ar_e19 (by assumption) (by assumption) | exact ar_n14 (by assumption) (by assumption) (by assumption) | exact ar_n26 (by assumption) (by assumption) (by assumption) | exact ar_n27 (by assumption) (by assumption) (by assumption) | exact ar_n15 (by assumption) (by assumption) (by assumption) (by assumption) | exact ar_n22 (by assumption) (by assumption) (by assumption) (by assumption)) | ((show @LE.le Nat _ _ _); first | exact Nat.le_refl _ | exact Nat.le_add_right _ _ | exact ar_n3 (by assumption) | exact ar_n4 (by assumption) | exact ar_n5 (by assumption) | exact ar_k7 (by assumption) | exact ar_k10 (by assumption) | exact ar_k13 (by assumption) | exact ar_e1 (by assumption) | exact ar_e2 (by assumption) | exact ar_e3 (by assumption) | exact ar_e6 (by assumption) | exact ar_e7 (by assumption) | exact ar_e8 (by assumption) | exact ar_s1 (by assumption) | exact ar_w2 (by assumption) | exact ar_n25 (by assumption) | exact ar_n9 (by assumption) (by assumption) | exact ar_n17 (by assumption) (by assumption) | exact ar_n28 (by assumption) (by assumption) | exact ar_e9 (by assumption) (by assumption) | exact ar_e10 (by assumption) (by assumption) | exact ar_e18 (by assumption) (by assumption) | exact ar_s3 (by assumption) (by assumption) | exact ar_n10 (by assumption) (by assumption) (by assumption) | exact ar_n11 (by assumption) (by assumption) (by assumption)) | ((show @LT.lt Int _ _ _); first | exact ar_k9 (by assumption) | exact ar_n18 (by assumption) | exact ar_n19 (by assumption) (by assumption)) | ((show @LE.le Int _ _ _); first | exact Int.natCast_nonneg _) | ((show @Eq Nat _ _); first | exact ar_e11 (by assumption) | exact ar_e12 (by assumption) | exact ar_e13 (by assumption) | exact ar_e15 (by assumption) | exact ar_s2 (by assumption) | exact ar_s4 (by assumption) | exact ar_w6 (by assumption) (by assumption) | exact ar_nn (by assumption)) | ((show @Eq Int _ _); first | exact ar_i5 | exact ar_i6 | exact ar_i7 | exact ar_i8 (by assumption)) | ((show ¬ _); first | exact ar_k5 (by assumption) | exact ar_k6 (by assumption) | exact ar_k11 (by assumption) | exact ar_k12 (by assumption) | exact ar_k14 (by assumption) | exact ar_e14 (by assumption) | exact ar_e16 (by assumption) | exact ar_e20 (by assumption) | exact ar_q1 (by assumption) | exact ar_q2 (by assumption) | exact ar_q3 (by assumption) | exact ar_q4 (by assumption) | exact ar_q5 (by assumption) | exact ar_w7 (by assumption) | exact ar_w8 (by assumption) | exact ar_w14 (by assumption) | exact ar_w16 (by assumption) | exact ar_w18 (by assumption) | exact ar_w19 (by assumption) | exact ar_w20 (by assumption) | exact ar_o3 (by assumption) | exact ar_o4 (by assumption) | exact ar_d (by assumption) (by decide) | exact ar_l1 (by assumption) (by assumption) | exact ar_l2 (by assumption) (by assumption) | exact ar_l3 (by assumption) (by assumption) | exact ar_w17 (by assumption) (by assumption) | exact ar_lv (by assumption) (by assumption) (by assumption) | exact ar_nn2 (by assumption)) | ((show _ ∧ _); first | exact ar_w1 (by assumption) | exact ar_w10 (by assumption) | exact ar_w12 (by assumption) | exact ar_w13 (by assumption) | exact ar_o2 (by assumption) | exact ar_w4 (by assumption) (by assumption) | exact ar_i4 (by assumption) (by assumption)) | ((show _ ∨ _); first | exact ar_o1 (by assumption) | exact ar_w3 (by assumption) (by assumption) | exact ar_w5 (by assumption) (by assumption) | exact ar_w9 (by assumption) (by assumption) | exact ar_w11 (by assumption) (by assumption)) | ((show _ ↔ _); first | exact ar_z3 | exact ar_z4 | exact ar_z5) | ((show False); first | exact (ar_f1 (by assumption) (by assumption) (by assumption)).elim | exact (ar_f2 (by assumption) (by assumption) (by assumption)).elim | exact (ar_c1 (by assumption) (by assumption)).elim | exact (ar_c2 (by assumption) (by assumption)).elim | exact (ar_c3 (by assumption) (by assumption)).elim | exact (ar_c4 (by assumption) (by assumption)).elim | exact (ar_c5 (by assumption) (by assumption)).elim | exact (ar_c7 (by assumption) (by assumption)).elim | exact (ar_c8 (by assumption) (by assumption)).elim | exact (ar_c9 (by assumption) (by assumption)).elim | exact (ar_c10 (by assumption) (by assumption)).elim | exact (ar_c11 (by assumption) (by assumption)).elim | exact (ar_c12 (by assumption) (by assumption)).elim | exact (ar_c13 (by assumption) (by assumption)).elim | exact (ar_f3 (by assumption) (by assumption)).elim | exact (ar_f4 (by assumption) (by assumption)).elim | exact (ar_f5 (by assumption) (by assumption)).elim | exact (ar_f6 (by assumption) (by assumption)).elim | exact (ar_f7 (by assumption) (by assumption)).elim | exact (ar_f8 (by assumption) (by assumption)).elim | exact (ar_f9 (by assumption) (by assumption)).elim | exact (ar_f10 (by assumption) (by assumption)).elim) | ((show @Eq _ _ _); first | exact (ar_f1 (by assumption) (by assumption) (by assumption)).elim | exact (ar_f2 (by assumption) (by assumption) (by assumption)).elim | exact (ar_c1 (by assumption) (by assumption)).elim | exact (ar_c2 (by assumption) (by assumption)).elim | exact (ar_c3 (by assumption) (by assumption)).elim | exact (ar_c4 (by assumption) (by assumption)).elim | exact (ar_c5 (by assumption) (by assumption)).elim | exact (ar_c7 (by assumption) (by assumption)).elim | exact (ar_c8 (by assumption) (by assumption)).elim | exact (ar_c9 (by assumption) (by assumption)).elim | exact (ar_c10 (by assumption) (by assumption)).elim | exact (ar_c11 (by assumption) (by assumption)).elim | exact (ar_c12 (by assumption) (by assumption)).elim | exact (ar_c13 (by assumption) (by assumption)).elim | exact (ar_f3 (by assumption) (by assumption)).elim | exact (ar_f4 (by assumption) (by assumption)).elim | exact (ar_f5 (by assumption) (by assumption)).elim | exact (ar_f6 (by assumption) (by assumption)).elim | exact (ar_f7 (by assumption) (by assumption)).elim | exact (ar_f8 (by assumption) (by assumption)).elim | exact (ar_f9 (by assumption) (by assumption)).elim | exact (ar_f10 (by assumption) (by assumption)).elim) | (intro _; first | exact (ar_f1 (by assumption) (by assumption) (by assumption)).elim | exact (ar_f2 (by assumption) (by assumption) (by assumption)).elim | exact (ar_c1 (by assumption) (by assumption)).elim | exact (ar_c2 (by assumption) (by assumption)).elim | exact (ar_c3 (by assumption) (by assumption)).elim | exact (ar_c4 (by assumption) (by assumption)).elim | exact (ar_c5 (by assumption) (by assumption)).elim | exact (ar_c7 (by assumption) (by assumption)).elim | exact (ar_c8 (by assumption) (by assumption)).elim | exact (ar_c9 (by assumption) (by assumption)).elim | exact (ar_c10 (by assumption) (by assumption)).elim | exact (ar_c11 (by assumption) (by assumption)).elim | exact (ar_c12 (by assumption) (by assumption)).elim | exact (ar_c13 (by assumption) (by assumption)).elim | exact (ar_f3 (by assumption) (by assumption)).elim | exact (ar_f4 (by assumption) (by assumption)).elim | exact (ar_f5 (by assumption) (by assumption)).elim | exact (ar_f6 (by assumption) (by assumption)).elim | exact (ar_f7 (by assumption) (by assumption)).elim | exact (ar_f8 (by assumption) (by assumption)).elim | exact (ar_f9 (by assumption) (by assumption)).elim | exact (ar_f10 (by assumption) (by assumption)).elim) | exact ar_i1 (by assumption) | exact ar_i2 (by assumption) | exact ar_i3 (by assumption) (by decide))
  exact True.intro
/-! ## The plain side: units -/

/-- a unit of a text: an escaped sign, or a sign -/
structure U where
  e : Bool
  c : Nat
deriving DecidableEq

/-- the signs that a backslash escapes here -/
def esc (c : Nat) : Bool := c == 40 || c == 41 || c == 60 || c == 62 || c == 92 || c == 34 || c == 39

def alpha (c : Nat) : Prop := c = 97 ∨ c = 40 ∨ c = 41 ∨ c = 60 ∨ c = 62 ∨ c = 92 ∨ c = 34 ∨ c = 39 ∨ c = 32 ∨ c = 10 ∨ c = 122

theorem alpha_rng {c : Nat} (h : alpha c) : c = 10 ∨ 32 ≤ c ∧ c ≤ 122 := by rcases h with rfl | rfl | rfl | rfl | rfl | rfl | rfl | rfl | rfl | rfl | rfl <;> decide
def tok : List Nat → List U
  | [] => []
  | [c] => [⟨false, c⟩]
  | c :: d :: r => if c = 92 ∧ esc d = true then ⟨true, d⟩ :: tok r else ⟨false, c⟩ :: tok (d :: r)

def U.chars (u : U) : List Nat := if u.e then [92, u.c] else [u.c]
def flat (us : List U) : List Nat := us.flatMap U.chars
def U.ws (u : U) : Bool := !u.e && (u.c == 32 || u.c == 10)
def U.is (u : U) (c : Nat) : Bool := !u.e && u.c == c

theorem tok_flat : ∀ cs : List Nat, flat (tok cs) = cs
  | [] => rfl
  | [c] => rfl
  | c :: d :: r => by
    have h1 := tok_flat r
    have h2 := tok_flat (d :: r)
    unfold tok
    split
    · rename_i h
      simp only [flat, List.flatMap_cons, U.chars, if_true] at *
      rw [h1, h.1]; rfl
    · simp only [flat, List.flatMap_cons, U.chars] at *
      rw [h2]; rfl

theorem tok_esc {d : Nat} {r : List Nat} (h : esc d = true) : tok (92 :: d :: r) = ⟨true, d⟩ :: tok r := by
  conv => lhs; unfold tok
  rw [if_pos ⟨rfl, h⟩]
theorem tok_one {c : Nat} {r : List Nat} (h : c = 92 → ∀ d, r.head? = some d → esc d = false) : tok (c :: r) = ⟨false, c⟩ :: tok r := by
  cases r with
  | nil => rfl
  | cons d r =>
    conv => lhs; unfold tok
    rw [if_neg]
    rintro ⟨h1, h2⟩
    rw [h h1 d rfl] at h2
    cases h2

def dropWs : List U → List U
  | [] => []
  | u :: r => if u.ws then dropWs r else u :: r

/-! ## A place in a text -/

/-- behind `pos` the text's units are `us` -/
structure At (src : Str) (pos : Nat) (us : List U) : Prop where
  le : pos ≤ src.cps.size
  tok : tok (src.cps.toList.drop pos) = us

def Alpha (src : Str) : Prop := ∀ i (h : i < src.cps.size), alpha src.cps[i]

theorem drop_at {src : Str} {pos : Nat} (h : pos < src.cps.size) : src.cps.toList.drop pos = src.cps[pos] :: src.cps.toList.drop (pos + 1) := by
  rw [List.drop_eq_getElem_cons (by simpa using h)]
  simp

theorem At.end_ {src : Str} {pos : Nat} {us : List U} (h : At src pos us) (hp : ¬ pos < src.cps.size) : us = [] := by
  have := h.tok
  rw [List.drop_eq_nil_of_le (by simp; omega)] at this
  exact this.symm
theorem At.one {src : Str} {pos : Nat} {us : List U} (h : At src pos us) (hp : pos < src.cps.size) (hc : src.cps[pos] = 92 → ∀ h2 : pos + 1 < src.cps.size, esc src.cps[pos + 1] = false) :
    ∃ r, us = ⟨false, src.cps[pos]⟩ :: r ∧ At src (pos + 1) r := by
  refine ⟨Mine.tok (src.cps.toList.drop (pos + 1)), ?_, ⟨hp, rfl⟩⟩
  rw [← h.tok, drop_at hp, tok_one]
  intro h1 d hd
  by_cases h2 : pos + 1 < src.cps.size
  · rw [drop_at h2] at hd
    cases hd
    exact hc h1 h2
  · rw [List.drop_eq_nil_of_le (by simp; omega)] at hd
    cases hd
theorem At.two {src : Str} {pos : Nat} {us : List U} (h : At src pos us) (hp : pos + 1 < src.cps.size) (h1 : src.cps[pos] = 92) (h2 : esc src.cps[pos + 1] = true) :
    ∃ r, us = ⟨true, src.cps[pos + 1]⟩ :: r ∧ At src (pos + 2) r := by
  refine ⟨Mine.tok (src.cps.toList.drop (pos + 2)), ?_, ⟨hp, rfl⟩⟩
  rw [← h.tok, drop_at (by omega), drop_at hp, h1, tok_esc h2]

theorem At.split {src : Str} {k : Nat} {us : List U} (h : At src k us) :
    (us = [] ∧ k = src.cps.size) ∨
    (∃ hk : k < src.cps.size, ∃ r, us = ⟨false, src.cps[k]⟩ :: r ∧ At src (k + 1) r ∧ (src.cps[k] = 92 → ∀ h2 : k + 1 < src.cps.size, esc src.cps[k + 1] = false)) ∨
    (∃ hk : k + 1 < src.cps.size, ∃ r, src.cps[k] = 92 ∧ esc src.cps[k + 1] = true ∧ us = ⟨true, src.cps[k + 1]⟩ :: r ∧ At src (k + 2) r) := by
  by_cases hk : k < src.cps.size
  · by_cases h2 : ∃ h2 : k + 1 < src.cps.size, src.cps[k] = 92 ∧ esc src.cps[k + 1] = true
    · obtain ⟨h2, h3, h4⟩ := h2
      obtain ⟨r, e, hr⟩ := h.two h2 h3 h4
      exact .inr (.inr ⟨h2, r, h3, h4, e, hr⟩)
    · have hc : src.cps[k] = 92 → ∀ h2 : k + 1 < src.cps.size, esc src.cps[k + 1] = false := fun h1 h3 => by
        cases q : esc src.cps[k + 1] with
        | false => rfl
        | true => exact absurd ⟨h3, h1, q⟩ h2
      obtain ⟨r, e, hr⟩ := h.one hk hc
      exact .inr (.inl ⟨hk, r, e, hr, hc⟩)
  · have := h.le
    exact .inl ⟨h.end_ hk, by omega⟩
theorem dropWs_cons_ws {u : U} {r : List U} (h : u.ws = true) : dropWs (u :: r) = dropWs r := by rw [dropWs, if_pos h]
theorem dropWs_cons_no {u : U} {r : List U} (h : u.ws = false) : dropWs (u :: r) = u :: r := by rw [dropWs, if_neg (by rw [h]; decide)]
theorem At.dropWs_self {src : Str} {k : Nat} {us : List U} (h : At src k us) (hn : ∀ hk : k < src.cps.size, src.cps[k] ≠ 32 ∧ src.cps[k] ≠ 10) : dropWs us = us := by
  rcases h.split with ⟨rfl, _⟩ | ⟨hk, r, rfl, _, _⟩ | ⟨hk, r, _, _, rfl, _⟩
  · rfl
  · refine dropWs_cons_no ?_
    have := hn hk
    simp [U.ws, this]
  · exact dropWs_cons_no rfl

theorem At.flat {x : Str} {k : Nat} {us : List U} (h : At x k us) : Mine.flat us = x.cps.toList.drop k := by
  rw [← h.tok, tok_flat]
theorem flat_append (a b : List U) : flat (a ++ b) = flat a ++ flat b := by simp [flat]
/-- what lies between two places -/
theorem At.between {x : Str} {s k : Nat} {pre us : List U} (h1 : At x s (pre ++ us)) (h2 : At x k us) (hle : s ≤ k) : x.cps.extract s k = (Mine.flat pre).toArray := by
  have e1 := h1.flat
  have e2 := h2.flat
  rw [flat_append, e2] at e1
  have l1 := congrArg List.length e1
  have l2 := h2.le
  have l3 := h1.le
  simp at l1
  have e3 : (Mine.flat pre).length = k - s := by omega
  refine Array.toList_inj.mp ?_
  rw [Array.toList_extract, List.extract_eq_take_drop, ← e1, ← e3, List.take_left]
/-- a made tuple -/
abbrev tupObj (vs : List Value) : Obj := { cls := .type "tuple", data := .seq vs.toArray }

/-! ## The walk's words -/
def Stop (P : Prop) : Prop := P
theorem stop {P : Prop} (h : Stop P) : P := h
theorem unstop {P : Prop} (h : P) : Stop P := h

/-- what a call of a def does, said once: the ledger gets `tl` ahead -/
def SpecOf (w : World) (p : Program) (loose : List Str) (mean : ExcName → Option Value) (mg mb : Str → Option Value) (f : Addr) (size : Nat) (vs : List Value) (post : List (Addr × Obj) → Value → Prop) : Prop :=
  ∀ (dp un : Nat) (gd : Option (List Code)) (cn : Str) (cs : Scope) (a : Addr) (ccd : Value) (cl : List (Str × Addr)) (outer : List Env) (A₀ : Around) (base h₀ : Heap) (L : Addr) (m : Str → Option Value) (news : List (Addr × Obj)) (s : Shared) (Q E : Value → Shared → Prop),
    Below A₀ base outer h₀ → Fr h₀ L s.heap m → Frag.In (hd.heap_39 w.params) h₀ → News h₀ L s.heap news → Top p loose mean mg mb h₀ → cs.kind = .function → dp + size < recursionLimit → un + 8 * size < cLine →
    (∀ r tl h' tk', Fr h₀ L h' m → News h₀ L h' (tl ++ news) → (∀ q ∈ news, ∀ p ∈ tl, q.1 < p.1) → post tl r → Q r { s with heap := h', toks := tk' }) →
    wpAny (model PySem.Challenge.rw_ba0041_01.row.prog w) (ktrTop dp un gd cn cs L a ccd cl outer) (call (.ref f) vs) Q E s

/-- a text's sign at an unknown place -/
theorem txt_item {x : Str} {k : Nat} (hk : k < x.cps.size) : Txt.item x (k : Int) = ⟨#[x.cps[k]]⟩ := by
  have e : seqIndex? (k : Int) x.length = some k := by
    have h0 : ¬ ((k : Int) < 0) := by omega
    have h1 : ((k : Int) < (x.cps.size : Int)) := by omega
    simp [seqIndex?, Str.length, h0, h1]
  unfold Txt.item Txt.charAt
  rw [e]
  simp [hk]
theorem item_c {prog : Program} {w : World} {A : Around} {E : Value → Shared → Prop} {s : Shared} {x : Str} {t u : Tok} {value slice : Expr} {Q : Value → Shared → Prop} {k : Int} {n : Nat} (hn : k = (n : Int)) (hk : n < x.cps.size) (hs' : x.cps.size < 1000)
    (h : Q (.str ⟨#[x.cps[n]]⟩ s.toks) { s with toks := s.toks + 1 })
    (hs : subscripted slice false (.str x t) (.int k u) = operate [.str x t, .int k u] (getItem (.str x t) (.int k u)) := by with_unfolding_all rfl)
    (ht : ∀ r, letTemporaryGo value (.str x t) r = pure () := by intro _; with_unfolding_all rfl) :
    wpAny (model prog w) A (subscriptTail value slice (.str x t) (.int k u)) Q E s := by
  subst hn
  refine item_str (fitsSsize_of (N := 9223372036854775808) (by omega) (by omega) (Int.le_refl _)) (by simp only [Str.length]; omega) (by simp only [Str.length]; omega) (fun _ => ?_) hs ht
  rw [txt_item hk]
  exact h
theorem txt_slice {x : Str} {a b : Nat} (hab : a ≤ b) (hb : b ≤ x.cps.size) : Txt.slice x (some (a : Int)) (some (b : Int)) = ⟨x.cps.extract a b⟩ := by
  have e : Txt.slice x (some (a : Int)) (some (b : Int)) = _ := StrLaws.sliceText_nat x hab hb
  rw [e]
  refine congrArg Str.mk (Array.toList_inj.mp ?_)
  simp
theorem item_a {prog : Program} {w : World} {A : Around} {E : Value → Shared → Prop} {s : Shared} {x : Str} {t u : Tok} {value slice : Expr} {Q : Value → Shared → Prop} {k : Int} {n : Nat} (ha : Alpha x) (hn : k = (n : Int)) (hk : n < x.cps.size) (hs' : x.cps.size < 1000)
    (h : (x.cps[n] = 10 ∨ (32 ≤ x.cps[n] ∧ x.cps[n] ≤ 122)) → Q (.str ⟨#[x.cps[n]]⟩ s.toks) { s with toks := s.toks + 1 })
    (hs : subscripted slice false (.str x t) (.int k u) = operate [.str x t, .int k u] (getItem (.str x t) (.int k u)) := by with_unfolding_all rfl)
    (ht : ∀ r, letTemporaryGo value (.str x t) r = pure () := by intro _; with_unfolding_all rfl) :
    wpAny (model prog w) A (subscriptTail value slice (.str x t) (.int k u)) Q E s := item_c hn hk hs' (h (alpha_rng (ha n hk))) hs ht
theorem in_c {prog : Program} {w : World} {A : Around} {E : Value → Shared → Prop} {s : Shared} {y : Str} {c : Nat} {t u : Tok} {Q : Value → Shared → Prop} (P : Prop) [Decidable P] (hP : c ∈ y.cps.toList ↔ P)
    (h : Q (.bool (decide P)) s) : wpAny (model prog w) A (compareOp .In (.str ⟨#[c]⟩ u) (.str y t)) Q E s := by
  refine in_str ?_
  rw [StrLaws.found_one]
  rw [show decide (c ∈ y.cps.toList) = decide P from decide_eq_decide.mpr hP]
  exact h
theorem eq_c {prog : Program} {w : World} {A : Around} {E : Value → Shared → Prop} {s : Shared} {y : Str} {c n : Nat} {t u : Tok} {Q : Value → Shared → Prop} (hy : y = ⟨#[n]⟩)
    (h : Q (.bool (decide (c = n))) s) : wpAny (model prog w) A (compareOp .Eq (.str ⟨#[c]⟩ u) (.str y t)) Q E s := by
  subst hy
  refine eq_str ?_
  rw [show ((⟨#[c]⟩ : Str) == ⟨#[n]⟩) = decide (c = n) from by
    by_cases h : c = n
    · subst h; simp
    · rw [decide_eq_false h]; simp [h]]
  exact h

theorem len_c {prog : Program} {w : World} {A : Around} {E : Value → Shared → Prop} {s : Shared} {x : Str} {t : Tok} {Q : Value → Shared → Prop} (hx : x.cps.size < 1000)
    (h : Q (.int (x.cps.size : Nat) (s.toks + 1)) { s with toks := s.toks + 1 + 1 }) : wpAny (model prog w) A (call (.builtin "len") [.str x t]) Q E s :=
  PyProof.Rows.len_str (by simp only [Str.length]; omega) h

theorem truthy_c {prog : Program} {w : World} {A : Around} {E : Value → Shared → Prop} {s : Shared} {x : Str} {t : Tok} {Q : Bool → Shared → Prop} (hx : x.cps.size < 1000)
    (h : Q (decide (0 < x.cps.size)) { s with toks := s.toks + 1 + 1 }) : wpAny (model prog w) A (truthy (.str x t)) Q E s := by
  refine PySem.P.truthy_str (by simp only [Str.length]; omega) ?_
  have e : ((x.length : Int) != 0) = decide (0 < x.cps.size) := by
    by_cases hz : x.cps.size = 0
    · simp [Str.length, hz]
    · have h1 : 0 < x.cps.size := by omega
      have h2 : ((x.cps.size : Int) != 0) = true := by rw [bne_iff_ne]; omega
      simp only [Str.length, h2, h1, decide_true]
  rw [e]
  exact h
theorem add_c {prog : Program} {w : World} {A : Around} {E : Value → Shared → Prop} {s : Shared} {x y : Str} {t u : Tok} {Q : Value → Shared → Prop} (hx : x.cps.size + y.cps.size < 1000)
    (h : ∀ t' tk, Q (.str ⟨x.cps ++ y.cps⟩ t') { s with toks := tk }) : wpAny (model prog w) A (binaryOp .Add (.str x t) (.str y u)) Q E s :=
  PyProof.Rows.add_str h (by simp only [Str.length]; rw [sizeLine_eq]; omega)

/-! ### written texts -/
theorem lit_nil : Str.ofString "" = ⟨#[]⟩ := by decide
theorem lit_lt : Str.ofString "<" = ⟨#[60]⟩ := by decide
theorem lit_gt : Str.ofString ">" = ⟨#[62]⟩ := by decide
theorem lit_bs : Str.ofString "\\" = ⟨#[92]⟩ := by decide
theorem lit_lp : Str.ofString "(" = ⟨#[40]⟩ := by decide
theorem lit_rp : Str.ofString ")" = ⟨#[41]⟩ := by decide
theorem lit_nl : Str.ofString "\n" = ⟨#[10]⟩ := by decide
theorem lit_cr : Str.ofString "\r" = ⟨#[13]⟩ := by decide
theorem lit_del : Str.ofString "\x7f" = ⟨#[127]⟩ := by decide
theorem lit_nul : Str.ofString "\x00" = ⟨#[0]⟩ := by decide
theorem lit_blank : Str.ofString " " = ⟨#[32]⟩ := by decide
theorem lit_ws : Str.ofString " \t\n\r\x0c" = ⟨#[32, 9, 10, 13, 12]⟩ := by decide
theorem lit_bt : Str.ofString " \t" = ⟨#[32, 9]⟩ := by decide
theorem lit_nr : Str.ofString "\n\r" = ⟨#[10, 13]⟩ := by decide
theorem lit_bad : Str.ofString "<\n\r\x00" = ⟨#[60, 10, 13, 0]⟩ := by decide
theorem lit_punct : Str.ofString "!\"#$%&'()*+,-./:;<=>?\x40[\\]^_`{|}~" = ⟨#[33, 34, 35, 36, 37, 38, 39, 40, 41, 42, 43, 44, 45, 46, 47, 58, 59, 60, 61, 62, 63, 64, 91, 92, 93, 94, 95, 96, 123, 124, 125, 126]⟩ := by decide
@[reducible] def Punct (c : Nat) : Prop := (33 ≤ c ∧ c ≤ 47) ∨ (58 ≤ c ∧ c ≤ 64) ∨ (91 ≤ c ∧ c ≤ 96) ∨ (123 ≤ c ∧ c ≤ 126)
theorem in_ws (c : Nat) : c ∈ (Str.ofString " \t\n\r\x0c").cps.toList ↔ (c = 32 ∨ c = 9 ∨ c = 10 ∨ c = 13 ∨ c = 12) := by rw [lit_ws]; simp
theorem in_bt (c : Nat) : c ∈ (Str.ofString " \t").cps.toList ↔ (c = 32 ∨ c = 9) := by rw [lit_bt]; simp
theorem in_nr (c : Nat) : c ∈ (Str.ofString "\n\r").cps.toList ↔ (c = 10 ∨ c = 13) := by rw [lit_nr]; simp
theorem in_bad (c : Nat) : c ∈ (Str.ofString "<\n\r\x00").cps.toList ↔ (c = 60 ∨ c = 10 ∨ c = 13 ∨ c = 0) := by rw [lit_bad]; simp
theorem punct_lt : ∀ c : Fin 128, c.val ∈ [33, 34, 35, 36, 37, 38, 39, 40, 41, 42, 43, 44, 45, 46, 47, 58, 59, 60, 61, 62, 63, 64, 91, 92, 93, 94, 95, 96, 123, 124, 125, 126] ↔ Punct c.val := by decide +kernel
theorem punct_mem : ∀ d ∈ [33, 34, 35, 36, 37, 38, 39, 40, 41, 42, 43, 44, 45, 46, 47, 58, 59, 60, 61, 62, 63, 64, 91, 92, 93, 94, 95, 96, 123, 124, 125, 126], d < 128 := by decide +kernel
theorem in_punct (c : Nat) : c ∈ (Str.ofString "!\"#$%&'()*+,-./:;<=>?\x40[\\]^_`{|}~").cps.toList ↔ Punct c := by
  rw [lit_punct]
  show c ∈ [33, 34, 35, 36, 37, 38, 39, 40, 41, 42, 43, 44, 45, 46, 47, 58, 59, 60, 61, 62, 63, 64, 91, 92, 93, 94, 95, 96, 123, 124, 125, 126] ↔ Punct c
  by_cases h : c < 128
  · exact punct_lt ⟨c, h⟩
  · constructor
    · exact fun hm => absurd (punct_mem c hm) h
    · intro hp
      exact absurd (by unfold Punct at hp; omega) h
theorem ws_of {c : Nat} (ha : alpha c) (h : c = 32 ∨ c = 9 ∨ c = 10 ∨ c = 13 ∨ c = 12) : U.ws ⟨false, c⟩ = true := by
  have hc : c = 32 ∨ c = 10 := by
    unfold alpha at ha
    rcases h with rfl | rfl | rfl | rfl | rfl
    · exact .inl rfl
    · exact absurd ha (by decide)
    · exact .inr rfl
    · exact absurd ha (by decide)
    · exact absurd ha (by decide)
  rcases hc with rfl | rfl <;> rfl

theorem words_re1_1 : True := by
  k_with_none
  w_top off
  k_with "MINE ar" => (with_reducible first | assumption | decide | ((show @LT.lt Nat _ _ _); first | exact ar_n1 (by assumption) | exact ar_n2 (by assumption) | exact ar_n6 (by assumption) | exact ar_n12 (by assumption) | exact ar_n13 (by assumption) | exact ar_k1 (by assumption) | exact ar_k2 (by assumption) | exact ar_k3 (by assumption) | exact ar_k4 (by assumption) | exact ar_k8 (by assumption) | exact ar_m1 (by assumption) | exact ar_m2 (by assumption) | exact ar_m3 (by assumption) | exact ar_m4 (by assumption) | exact ar_m5 (by assumption) | exact ar_e4 (by assumption) | exact ar_e5 (by assumption) | exact ar_r1 (by assumption) | exact Nat.lt_succ_self _ | exact ar_r2 (by assumption) (by decide) | exact ar_r3 (by assumption) (by decide) | exact ar_n7 (by assumption) (by assumption) | exact ar_n8 (by assumption) (by assumption) | exact ar_n16 (by assumption) (by assumption) | exact ar_n20 (by assumption) (by assumption) | exact ar_n21 (by assumption) (by assumption) | exact ar_n23 (by assumption) (by assumption) | exact ar_n24 (by assumption) (by assumption) | exact ar_e17 (by assumption) (by assumption) | exact ar_e19 (by assumption) (by assumption) | exact ar_n14 (by assumption) (by assumption) (by assumption) | exact ar_n26 (by assumption) (by assumption) (by assumption) | exact ar_n27 (by assumption) (by assumption) (by assumption) | exact ar_n15 (by assumption) (by assumption) (by assumption) (by assumption) | exact ar_n22 (by assumption) (by assumption) (by assumption) (by assumption)) | ((show @LE.le Nat _ _ _); first | exact Nat.le_refl _ | exact Nat.le_add_right _ _ | exact ar_n3 (by assumption) | exact ar_n4 (by assumption) | exact ar_n5 (by assumption) | exact ar_k7 (by assumption) | exact ar_k10 (by assumption) | exact ar_k13 (by assumption) | exact ar_e1 (by assumption) | exact ar_e2 (by assumption) | exact ar_e3 (by assumption) | exact ar_e6 (by assumption) | exact ar_e7 (by assumption) | exact ar_e8 (by assumption) | exact ar_s1 (by assumption) | exact ar_w2 (by assumption) | exact ar_n25 (by assumption) | exact ar_n9 (by assumption) (by assumption) | exact ar_n17 (by assumption) (by assumption) | exact ar_n28 (by assumption) (by assumption) | exact ar_e9 (by assumption) (by assumption) | exact ar_e10 (by assumption) (by assumption) | exact ar_e18 (by assumption) (by assumption) | exact ar_s3 (by assumption) (by assumption) | exact ar_n10 (by assumption) (by assumption) (by assumption) | exact ar_n11 (by assumption) (by assumption) (by assumption)) | ((show @LT.lt Int _ _ _); first | exact ar_k9 (by assumption) | exact ar_n18 (by assumption) | exact ar_n19 (by assumption) (by assumption)) | ((show @LE.le Int _ _ _); first | exact Int.natCast_nonneg _) | ((show @Eq Nat _ _); first | exact ar_e11 (by assumption) | exact ar_e12 (by assumption) | exact ar_e13 (by assumption) | exact ar_e15 (by assumption) | exact ar_s2 (by assumption) | exact ar_s4 (by assumption) | exact ar_w6 (by assumption) (by assumption) | exact ar_nn (by assumption)) | ((show @Eq Int _ _); first | exact ar_i5 | exact ar_i6 | exact ar_i7 | exact ar_i8 (by assumption)) | ((show ¬ _); first | exact ar_k5 (by assumption) | exact ar_k6 (by assumption) | exact ar_k11 (by assumption) | exact ar_k12 (by assumption) | exact ar_k14 (by assumption) | exact ar_e14 (by assumption) | exact ar_e16 (by assumption) | exact ar_e20 (by assumption) | exact ar_q1 (by assumption) | exact ar_q2 (by assumption) | exact ar_q3 (by assumption) | exact ar_q4 (by assumption) | exact ar_q5 (by assumption) | exact ar_w7 (by assumption) | exact ar_w8 (by assumption) | exact ar_w14 (by assumption) | exact ar_w16 (by assumption) | exact ar_w18 (by assumption) | exact ar_w19 (by assumption) | exact ar_w20 (by assumption) | exact ar_o3 (by assumption) | exact ar_o4 (by assumption) | exact ar_d (by assumption) (by decide) | exact ar_l1 (by assumption) (by assumption) | exact ar_l2 (by assumption) (by assumption) | exact ar_l3 (by assumption) (by assumption) | exact ar_w17 (by assumption) (by assumption) | exact ar_lv (by assumption) (by assumption) (by assumption) | exact ar_nn2 (by assumption)) | ((show _ ∧ _); first | exact ar_w1 (by assumption) | exact ar_w10 (by assumption) | exact ar_w12 (by assumption) | exact ar_w13 (by assumption) | exact ar_o2 (by assumption) | exact ar_w4 (by assumption) (by assumption) | exact ar_i4 (by assumption) (by assumption)) | ((show _ ∨ _); first | exact ar_o1 (by assumption) | exact ar_w3 (by assumption) (by assumption) | exact ar_w5 (by assumption) (by assumption) | exact ar_w9 (by assumption) (by assumption) | exact ar_w11 (by assumption) (by assumption)) | ((show _ ↔ _); first | exact ar_z3 | exact ar_z4 | exact ar_z5) | ((show False); first | exact (ar_f1 (by assumption) (by assumption) (by assumption)).elim | exact (ar_f2 (by assumption) (by assumption) (by assumption)).elim | exact (ar_c1 (by assumption) (by assumption)).elim | exact (ar_c2 (by assumption) (by assumption)).elim | exact (ar_c3 (by assumption) (by assumption)).elim | exact (ar_c4 (by assumption) (by assumption)).elim | exact (ar_c5 (by assumption) (by assumption)).elim | exact (ar_c7 (by assumption) (by assumption)).elim | exact (ar_c8 (by assumption) (by assumption)).elim | exact (ar_c9 (by assumption) (by assumption)).elim | exact (ar_c10 (by assumption) (by assumption)).elim | exact (ar_c11 (by assumption) (by assumption)).elim | exact (ar_c12 (by assumption) (by assumption)).elim | exact (ar_c13 (by assumption) (by assumption)).elim | exact (ar_f3 (by assumption) (by assumption)).elim | exact (ar_f4 (by assumption) (by assumption)).elim | exact (ar_f5 (by assumption) (by assumption)).elim | exact (ar_f6 (by assumption) (by assumption)).elim | exact (ar_f7 (by assumption) (by assumption)).elim | exact (ar_f8 (by assumption) (by assumption)).elim | exact (ar_f9 (by assumption) (by assumption)).elim | exact (ar_f10 (by assumption) (by assumption)).elim) | ((show @Eq _ _ _); first | exact (ar_f1 (by assumption) (by assumption) (by assumption)).elim | exact (ar_f2 (by assumption) (by assumption) (by assumption)).elim | exact (ar_c1 (by assumption) (by assumption)).elim | exact (ar_c2 (by assumption) (by assumption)).elim | exact (ar_c3 (by assumption) (by assumption)).elim | exact (ar_c4 (by assumption) (by assumption)).elim | exact (ar_c5 (by assumption) (by assumption)).elim | exact (ar_c7 (by assumption) (by assumption)).elim | exact (ar_c8 (by assumption) (by assumption)).elim | exact (ar_c9 (by assumption) (by assumption)).elim | exact (ar_c10 (by assumption) (by assumption)).elim | exact (ar_c11 (by assumption) (by assumption)).elim | exact (ar_c12 (by assumption) (by assumption)).elim | exact (ar_c13 (by assumption) (by assumption)).elim | exact (ar_f3 (by assumption) (by assumption)).elim | exact (ar_f4 (by assumption) (by assumption)).elim | exact (ar_f5 (by assumption) (by assumption)).elim | exact (ar_f6 (by assumption) (by assumption)).elim | exact (ar_f7 (by assumption) (by assumption)).elim | exact (ar_f8 (by assumption) (by assumption)).elim | exact (ar_f9 (by assumption) (by assumption)).elim | exact (ar_f10 (by assumption) (by assumption)).elim) | (intro _; first | exact (ar_f1 (by assumption) (by assumption) (by assumption)).elim | exact (ar_f2 (by assumption) (by assumption) (by assumption)).elim | exact (ar_c1 (by assumption) (by assumption)).elim | exact (ar_c2 (by assumption) (by assumption)).elim | exact (ar_c3 (by assumption) (by assumption)).elim | exact (ar_c4 (by assumption) (by assumption)).elim | exact (ar_c5 (by assumption) (by assumption)).elim | exact (ar_c7 (by assumption) (by assumption)).elim | exact (ar_c8 (by assumption) (by assumption)).elim | exact (ar_c9 (by assumption) (by assumption)).elim | exact (ar_c10 (by assumption) (by assumption)).elim | exact (ar_c11 (by assumption) (by assumption)).elim | exact (ar_c12 (by assumption) (by assumption)).elim | exact (ar_c13 (by assumption) (by assumption)).elim | exact (ar_f3 (by assumption) (by assumption)).elim | exact (ar_f4 (by assumption) (by assumption)).elim | exact (ar_f5 (by assumption) (by assumption)).elim | exact (ar_f6 (by assumption) (by assumption)).elim | exact (ar_f7 (by assumption) (by assumption)).elim | exact (ar_f8 (by assumption) (by assumption)).elim | exact (ar_f9 (by assumption) (by assumption)).elim | exact (ar_f10 (by assumption) (by assumption)).elim) | exact ar_i1 (by assumption) | exact ar_i2 (by assumption) | exact ar_i3 (by assumption) (by decide))
  exact True.intro
section
open PySem.Sre

theorem runFor_done {m : M} (h : m.outcome.isSome = true) : ∀ n, m.runFor n = m
  | 0 => rfl
  | n + 1 => by rw [M.runFor, if_pos h]
theorem runFor_add (a : Nat) : ∀ (b : Nat) (m : M), m.runFor (a + b) = (m.runFor a).runFor b := by
  induction a with
  | zero => intro b m; rw [Nat.zero_add]; rfl
  | succ a ih =>
    intro b m
    rw [Nat.succ_add, M.runFor, M.runFor]
    split
    · rename_i h; exact (runFor_done h b).symm
    · exact ih b _
theorem reDrive_wp {Mo : Model} {A : Around} {E : Value → Shared → Prop} {Q : M → Shared → Prop} {s : Shared} : ∀ (n N : Nat) (m : M), N < 4 * n → (m.runFor N).outcome.isSome = true → Q (m.runFor N) s → wpAny Mo A (Builtin.Re.reDrive n m) Q E s
  | 0, N, m, h, _, _ => absurd h (Nat.not_lt_zero _)
  | n + 1, N, m, h, ho, hq => by
    unfold Builtin.Re.reDrive
    dsimp only [Builtin.Re.reTurnSteps]
    by_cases h4 : (m.runFor 4).outcome.isSome = true
    · rw [if_pos h4]
      have e : m.runFor N = m.runFor 4 := by
        by_cases hN : N ≤ 4
        · have := runFor_add N (4 - N) m
          rw [runFor_done ho, Nat.add_sub_cancel' hN] at this
          exact this.symm
        · have := runFor_add 4 (N - 4) m
          rw [runFor_done h4, Nat.add_sub_cancel' (by omega)] at this
          exact this
      rw [← e]
      exact wpAny_pure hq
    · rw [if_neg h4]
      have hN : 4 < N := by
        refine Classical.byContradiction fun hN => h4 ?_
        have := runFor_add N (4 - N) m
        rw [runFor_done ho, Nat.add_sub_cancel' (by omega)] at this
        rw [this]; exact ho
      have e := runFor_add 4 (N - 4) m
      rw [Nat.add_sub_cancel' (by omega)] at e
      refine wpAny_bind (wpAny_rule (reDrive_wp n (N - 4) _ (by omega) ?_ ?_))
      · rw [← e]; exact ho
      · rw [← e]; exact hq

def codeE : Array Nat := #[14, 8, 1, 2, 2, 1, 1, 92, 0, 16, 92, 17, 0, 13, 11, 9, 0, 4227923966, 4160749569, 2013265921, 0, 0, 0, 0, 0, 17, 1, 1]

def stE (text : Array Nat) (lim s : Nat) (first must : Bool) (marks : Array (Option Nat)) (seen : Sre.Seen) : M :=
  { code := codeE, text, lim, start := s, lastStart := lim, wholeText := false, mustAdvance := must, pc := 9, pos := s, handed := s, outermost := first, marks, lastmark := -1, lastindex := -1, loops := #[], inner := none,
    frames := [{ wait := .nextStart, pc := 9, pos := s, outermost := first }], weight := 1, answer := none, seen, outcome := none }

theorem stepE_end {text : Array Nat} {lim s : Nat} {first must : Bool} {marks : Array (Option Nat)} {seen : Sre.Seen} (h : s ≥ lim) :
    ((stE text lim s first must marks seen).runFor 3).outcome = some .failed := by
  have h' : ¬ s < lim := by omega
  simp [stE, M.runFor, M.step, M.exec, M.word, codeE, ops, h, h', M.say, M.resume, M.putBack]

theorem stepE_no {text : Array Nat} {lim s c : Nat} {first must : Bool} {marks : Array (Option Nat)} {seen : Sre.Seen} (h : s < lim) (hc : text[s]? = some c) (hn : c ≠ 92) :
    (stE text lim s first must marks seen).runFor 2 = stE text lim (s + 1) false false marks (seen.add 16) := by
  have h' : ¬ s ≥ lim := by omega
  have hb : (c == 92) = false := by simpa using hn
  simp [stE, M.runFor, M.step, M.exec, M.word, codeE, ops, h, h', M.say, M.resume, M.putBack, accepts, hc, hb, M.attemptFrom, M.hasFirstSet, M.attemptAt, M.attempt]

def stE2 (text : Array Nat) (lim s : Nat) (first must : Bool) (marks : Array (Option Nat)) (seen : Sre.Seen) : M :=
  { stE text lim s first must (marks.setIfInBounds 0 (some (s + 1))) seen with pc := 13, pos := s + 1, lastmark := 0 }

theorem stepE_bs {text : Array Nat} {lim s : Nat} {first must : Bool} {marks : Array (Option Nat)} {seen : Sre.Seen} (h : s < lim) (hc : text[s]? = some 92) :
    ∃ seen', (stE text lim s first must marks seen).runFor 2 = stE2 text lim s first must marks seen' := by
  have h' : ¬ s ≥ lim := by omega
  refine ⟨(seen.add 16).add 17, ?_⟩
  simp [stE, stE2, M.runFor, M.step, M.exec, M.word, codeE, ops, h, h', M.say, M.resume, M.putBack, accepts, hc, M.attemptFrom, M.hasFirstSet, M.attemptAt, M.attempt, M.mark, itemWidth]
  decide

theorem inSet_E {c : Nat} {seen : Sre.Seen} (hp : Punct c) : ∃ seen', inSet codeE c 28 15 true seen = .ok (true, seen') := by
  have hc : c < 128 := by unfold Punct at hp; omega
  have key : ∀ c : Fin 128, Punct c.val → (decide (c.val < 256) && (codeE.getD (15 + (1 + c.val / 32)) 0).testBit (c.val % 32)) = true := by decide +kernel
  refine ⟨seen.add 9, ?_⟩
  unfold inSet
  have := key ⟨c, hc⟩ hp
  dsimp only at this
  simp only [show codeE.getD (15 + 0) 0 = 9 from rfl, show ops[9]? = some Op.CHARSET from rfl, this, if_true]
theorem inSet_En {c : Nat} {seen : Sre.Seen} (hp : ¬ Punct c) : ∃ seen', inSet codeE c 28 15 true seen = .ok (false, seen') := by
  have key : ∀ c : Fin 256, ¬ Punct c.val → (codeE.getD (15 + (1 + c.val / 32)) 0).testBit (c.val % 32) = false := by decide +kernel
  have hk : (decide (c < 256) && (codeE.getD (15 + (1 + c / 32)) 0).testBit (c % 32)) = false := by
    by_cases hc : c < 256
    · rw [key ⟨c, hc⟩ hp, Bool.and_false]
    · rw [decide_eq_false hc, Bool.false_and]
  refine ⟨(seen.add 9).add 0, ?_⟩
  unfold inSet
  simp only [show codeE.getD (15 + 0) 0 = 9 from rfl, show ops[9]? = some Op.CHARSET from rfl, hk, Bool.false_eq_true, if_false]
  unfold inSet
  simp only [show codeE.getD (15 + 9 + 0) 0 = 0 from rfl, show ops[0]? = some Op.FAILURE from rfl, Bool.not_true]

theorem stepE2_end {text : Array Nat} {lim s : Nat} {first must : Bool} {marks : Array (Option Nat)} {seen : Sre.Seen} (h : s < lim) (h2 : ¬ s + 1 < lim) :
    ∃ seen', (stE2 text lim s first must marks seen).runFor 2 = stE text lim (s + 1) false false (marks.setIfInBounds 0 (some (s + 1))) seen' := by
  have h' : s + 1 ≥ lim := by omega
  refine ⟨seen.add 13, ?_⟩
  simp [stE, stE2, M.runFor, M.step, M.exec, M.word, codeE, ops, h, h', M.say, M.resume, M.putBack, accepts, M.attemptFrom, M.hasFirstSet, M.attemptAt, M.attempt, M.mark, itemWidth]
theorem stepE2_no {text : Array Nat} {lim s d : Nat} {first must : Bool} {marks : Array (Option Nat)} {seen : Sre.Seen} (h : s < lim) (h2 : s + 1 < lim) (hc : text[s + 1]? = some d) (hp : ¬ Punct d) :
    ∃ seen', (stE2 text lim s first must marks seen).runFor 2 = stE text lim (s + 1) false false (marks.setIfInBounds 0 (some (s + 1))) seen' := by
  have h' : ¬ s + 1 ≥ lim := by omega
  obtain ⟨seen', e⟩ := inSet_En (seen := seen.add 13) hp
  refine ⟨seen', ?_⟩
  simp only [codeE] at e
  simp [stE, stE2, M.runFor, M.step, M.exec, M.word, codeE, ops, h, h', M.say, M.resume, M.putBack, accepts, hc, M.attemptFrom, M.hasFirstSet, M.attemptAt, M.attempt, M.mark, itemWidth, e]
def stE3 (text : Array Nat) (lim s : Nat) (first must : Bool) (marks : Array (Option Nat)) (seen : Sre.Seen) : M :=
  { stE text lim s first must ((marks.setIfInBounds 0 (some (s + 1))).setIfInBounds 1 (some (s + 2))) seen with
    pos := s, handed := s + 2, lastmark := 1, lastindex := 1, frames := [], weight := 0, answer := some true, outcome := some .matched }
theorem stepE2_yes {text : Array Nat} {lim s d : Nat} {first must : Bool} {marks : Array (Option Nat)} {seen : Sre.Seen} (h : s < lim) (h2 : s + 1 < lim) (hc : text[s + 1]? = some d) (hp : Punct d) :
    ∃ seen', (stE2 text lim s first must marks seen).runFor 5 = stE3 text lim s first must marks seen' := by
  have h' : ¬ s + 1 ≥ lim := by omega
  obtain ⟨seen', e⟩ := inSet_E (seen := seen.add 13) hp
  refine ⟨(seen'.add 17).add 1, ?_⟩
  simp only [codeE] at e
  have hne : ¬ (s + 1 + 1 = s) := by omega
  have hm : max (0 : Int) 1 = 1 := by decide
  simp [hne, hm, stE, stE2, stE3, M.runFor, M.step, M.exec, M.word, codeE, ops, h, h', M.say, M.resume, M.putBack, accepts, hc, M.attemptFrom, M.hasFirstSet, M.attemptAt, M.attempt, M.mark, itemWidth, e]
end

theorem words_re2_1 : True := by
  k_with_none
  w_top off
  k_with "MINE ar" => (with_reducible first | assumption | decide | ((show @LT.lt Nat _ _ _); first | exact ar_n1 (by assumption) | exact ar_n2 (by assumption) | exact ar_n6 (by assumption) | exact ar_n12 (by assumption) | exact ar_n13 (by assumption) | exact ar_k1 (by assumption) | exact ar_k2 (by assumption) | exact ar_k3 (by assumption) | exact ar_k4 (by assumption) | exact ar_k8 (by assumption) | exact ar_m1 (by assumption) | exact ar_m2 (by assumption) | exact ar_m3 (by assumption) | exact ar_m4 (by assumption) | exact ar_m5 (by assumption) | exact ar_e4 (by assumption) | exact ar_e5 (by assumption) | exact ar_r1 (by assumption) | exact Nat.lt_succ_self _ | exact ar_r2 (by assumption) (by decide) | exact ar_r3 (by assumption) (by decide) | exact ar_n7 (by assumption) (by assumption) | exact ar_n8 (by assumption) (by assumption) | exact ar_n16 (by assumption) (by assumption) | exact ar_n20 (by assumption) (by assumption) | exact ar_n21 (by assumption) (by assumption) | exact ar_n23 (by assumption) (by assumption) | exact ar_n24 (by assumption) (by assumption) | exact ar_e17 (by assumption) (by assumption) | exact ar_e19 (by assumption) (by assumption) | exact ar_n14 (by assumption) (by assumption) (by assumption) | exact ar_n26 (by assumption) (by assumption) (by assumption) | exact ar_n27 (by assumption) (by assumption) (by assumption) | exact ar_n15 (by assumption) (by assumption) (by assumption) (by assumption) | exact ar_n22 (by assumption) (by assumption) (by assumption) (by assumption)) | ((show @LE.le Nat _ _ _); first | exact Nat.le_refl _ | exact Nat.le_add_right _ _ | exact ar_n3 (by assumption) | exact ar_n4 (by assumption) | exact ar_n5 (by assumption) | exact ar_k7 (by assumption) | exact ar_k10 (by assumption) | exact ar_k13 (by assumption) | exact ar_e1 (by assumption) | exact ar_e2 (by assumption) | exact ar_e3 (by assumption) | exact ar_e6 (by assumption) | exact ar_e7 (by assumption) | exact ar_e8 (by assumption) | exact ar_s1 (by assumption) | exact ar_w2 (by assumption) | exact ar_n25 (by assumption) | exact ar_n9 (by assumption) (by assumption) | exact ar_n17 (by assumption) (by assumption) | exact ar_n28 (by assumption) (by assumption) | exact ar_e9 (by assumption) (by assumption) | exact ar_e10 (by assumption) (by assumption) | exact ar_e18 (by assumption) (by assumption) | exact ar_s3 (by assumption) (by assumption) | exact ar_n10 (by assumption) (by assumption) (by assumption) | exact ar_n11 (by assumption) (by assumption) (by assumption)) | ((show @LT.lt Int _ _ _); first | exact ar_k9 (by assumption) | exact ar_n18 (by assumption) | exact ar_n19 (by assumption) (by assumption)) | ((show @LE.le Int _ _ _); first | exact Int.natCast_nonneg _) | ((show @Eq Nat _ _); first | exact ar_e11 (by assumption) | exact ar_e12 (by assumption) | exact ar_e13 (by assumption) | exact ar_e15 (by assumption) | exact ar_s2 (by assumption) | exact ar_s4 (by assumption) | exact ar_w6 (by assumption) (by assumption) | exact ar_nn (by assumption)) | ((show @Eq Int _ _); first | exact ar_i5 | exact ar_i6 | exact ar_i7 | exact ar_i8 (by assumption)) | ((show ¬ _); first | exact ar_k5 (by assumption) | exact ar_k6 (by assumption) | exact ar_k11 (by assumption) | exact ar_k12 (by assumption) | exact ar_k14 (by assumption) | exact ar_e14 (by assumption) | exact ar_e16 (by assumption) | exact ar_e20 (by assumption) | exact ar_q1 (by assumption) | exact ar_q2 (by assumption) | exact ar_q3 (by assumption) | exact ar_q4 (by assumption) | exact ar_q5 (by assumption) | exact ar_w7 (by assumption) | exact ar_w8 (by assumption) | exact ar_w14 (by assumption) | exact ar_w16 (by assumption) | exact ar_w18 (by assumption) | exact ar_w19 (by assumption) | exact ar_w20 (by assumption) | exact ar_o3 (by assumption) | exact ar_o4 (by assumption) | exact ar_d (by assumption) (by decide) | exact ar_l1 (by assumption) (by assumption) | exact ar_l2 (by assumption) (by assumption) | exact ar_l3 (by assumption) (by assumption) | exact ar_w17 (by assumption) (by assumption) | exact ar_lv (by assumption) (by assumption) (by assumption) | exact ar_nn2 (by assumption)) | ((show _ ∧ _); first | exact ar_w1 (by assumption) | exact ar_w10 (by assumption) | exact ar_w12 (by assumption) | exact ar_w13 (by assumption) | exact ar_o2 (by assumption) | exact ar_w4 (by assumption) (by assumption) | exact ar_i4 (by assumption) (by assumption)) | ((show _ ∨ _); first | exact ar_o1 (by assumption) | exact ar_w3 (by assumption) (by assumption) | exact ar_w5 (by assumption) (by assumption) | exact ar_w9 (by assumption) (by assumption) | exact ar_w11 (by assumption) (by assumption)) | ((show _ ↔ _); first | exact ar_z3 | exact ar_z4 | exact ar_z5) | ((show False); first | exact (ar_f1 (by assumption) (by assumption) (by assumption)).elim | exact (ar_f2 (by assumption) (by assumption) (by assumption)).elim | exact (ar_c1 (by assumption) (by assumption)).elim | exact (ar_c2 (by assumption) (by assumption)).elim | exact (ar_c3 (by assumption) (by assumption)).elim | exact (ar_c4 (by assumption) (by assumption)).elim | exact (ar_c5 (by assumption) (by assumption)).elim | exact (ar_c7 (by assumption) (by assumption)).elim | exact (ar_c8 (by assumption) (by assumption)).elim | exact (ar_c9 (by assumption) (by assumption)).elim | exact (ar_c10 (by assumption) (by assumption)).elim | exact (ar_c11 (by assumption) (by assumption)).elim | exact (ar_c12 (by assumption) (by assumption)).elim | exact (ar_c13 (by assumption) (by assumption)).elim | exact (ar_f3 (by assumption) (by assumption)).elim | exact (ar_f4 (by assumption) (by assumption)).elim | exact (ar_f5 (by assumption) (by assumption)).elim | exact (ar_f6 (by assumption) (by assumption)).elim | exact (ar_f7 (by assumption) (by assumption)).elim | exact (ar_f8 (by assumption) (by assumption)).elim | exact (ar_f9 (by assumption) (by assumption)).elim | exact (ar_f10 (by assumption) (by assumption)).elim) | ((show @Eq _ _ _); first | exact (ar_f1 (by assumption) (by assumption) (by assumption)).elim | exact (ar_f2 (by assumption) (by assumption) (by assumption)).elim | exact (ar_c1 (by assumption) (by assumption)).elim | exact (ar_c2 (by assumption) (by assumption)).elim | exact (ar_c3 (by assumption) (by assumption)).elim | exact (ar_c4 (by assumption) (by assumption)).elim | exact (ar_c5 (by assumption) (by assumption)).elim | exact (ar_c7 (by assumption) (by assumption)).elim | exact (ar_c8 (by assumption) (by assumption)).elim | exact (ar_c9 (by assumption) (by assumption)).elim | exact (ar_c10 (by assumption) (by assumption)).elim | exact (ar_c11 (by assumption) (by assumption)).elim | exact (ar_c12 (by assumption) (by assumption)).elim | exact (ar_c13 (by assumption) (by assumption)).elim | exact (ar_f3 (by assumption) (by assumption)).elim | exact (ar_f4 (by assumption) (by assumption)).elim | exact (ar_f5 (by assumption) (by assumption)).elim | exact (ar_f6 (by assumption) (by assumption)).elim | exact (ar_f7 (by assumption) (by assumption)).elim | exact (ar_f8 (by assumption) (by assumption)).elim | exact (ar_f9 (by assumption) (by assumption)).elim | exact (ar_f10 (by assumption) (by assumption)).elim) | (intro _; first | exact (ar_f1 (by assumption) (by assumption) (by assumption)).elim | exact (ar_f2 (by assumption) (by assumption) (by assumption)).elim | exact (ar_c1 (by assumption) (by assumption)).elim | exact (ar_c2 (by assumption) (by assumption)).elim | exact (ar_c3 (by assumption) (by assumption)).elim | exact (ar_c4 (by assumption) (by assumption)).elim | exact (ar_c5 (by assumption) (by assumption)).elim | exact (ar_c7 (by assumption) (by assumption)).elim | exact (ar_c8 (by assumption) (by assumption)).elim | exact (ar_c9 (by assumption) (by assumption)).elim | exact (ar_c10 (by assumption) (by assumption)).elim | exact (ar_c11 (by assumption) (by assumption)).elim | exact (ar_c12 (by assumption) (by assumption)).elim | exact (ar_c13 (by assumption) (by assumption)).elim | exact (ar_f3 (by assumption) (by assumption)).elim | exact (ar_f4 (by assumption) (by assumption)).elim | exact (ar_f5 (by assumption) (by assumption)).elim | exact (ar_f6 (by assumption) (by assumption)).elim | exact (ar_f7 (by assumption) (by assumption)).elim | exact (ar_f8 (by assumption) (by assumption)).elim | exact (ar_f9 (by assumption) (by assumption)).elim | exact (ar_f10 (by assumption) (by assumption)).elim) | exact ar_i1 (by assumption) | exact ar_i2 (by assumption) | exact ar_i3 (by assumption) (by decide))
  exact True.intro
theorem pa_pattern : PlainAttrs "re.Pattern" :=
  ⟨⟨"object.__getattribute__", by rw [typeLookup_type, builtinLookup_eq_fast]; kernel_rfl, by decide +kernel⟩, by rw [typeLookup_type, builtinLookup_eq_fast]; kernel_rfl⟩
theorem pa_match : PlainAttrs "re.Match" :=
  ⟨⟨"object.__getattribute__", by rw [typeLookup_type, builtinLookup_eq_fast]; kernel_rfl, by decide +kernel⟩, by rw [typeLookup_type, builtinLookup_eq_fast]; kernel_rfl⟩
theorem slot_sub : Slot "re.Pattern" "sub" "re.Pattern.sub" :=
  .of (owner := "re.Pattern") (n := "sub") (by rw [typeLookup_type, builtinLookup_eq_fast]; kernel_rfl) (by decide +kernel) (by decide +kernel) (by decide +kernel)
    (by first | exact .inl (by decide +kernel) | exact .inr (by decide +kernel)) (by rw [isSubtype_type]; kernel_rfl)
theorem slot_match : Slot "re.Pattern" "match" "re.Pattern.match" :=
  .of (owner := "re.Pattern") (n := "match") (by rw [typeLookup_type, builtinLookup_eq_fast]; kernel_rfl) (by decide +kernel) (by decide +kernel) (by decide +kernel)
    (by first | exact .inl (by decide +kernel) | exact .inr (by decide +kernel)) (by rw [isSubtype_type]; kernel_rfl)
theorem slot_group : Slot "re.Match" "group" "re.Match.group" :=
  .of (owner := "re.Match") (n := "group") (by rw [typeLookup_type, builtinLookup_eq_fast]; kernel_rfl) (by decide +kernel) (by decide +kernel) (by decide +kernel)
    (by first | exact .inl (by decide +kernel) | exact .inr (by decide +kernel)) (by rw [isSubtype_type]; kernel_rfl)
theorem type_sub : typeOf (.builtin "re.Pattern.sub") = pure (.type "method_descriptor") := by show builtinType _ = _; rw [builtinType_eq_fast]; kernel_rfl
theorem type_match : typeOf (.builtin "re.Pattern.match") = pure (.type "method_descriptor") := by show builtinType _ = _; rw [builtinType_eq_fast]; kernel_rfl
theorem type_group : typeOf (.builtin "re.Match.group") = pure (.type "method_descriptor") := by show builtinType _ = _; rw [builtinType_eq_fast]; kernel_rfl
theorem entry_sub : entryFor table "re.Pattern.sub" = some Builtin.«re.Pattern.sub» := entryFor_of_tree (by kernel_rfl)
theorem entry_match : entryFor table "re.Pattern.match" = some Builtin.«re.Pattern.match» := entryFor_of_tree (by kernel_rfl)
theorem entry_group : entryFor table "re.Match.group" = some Builtin.«re.Match.group» := entryFor_of_tree (by kernel_rfl)
theorem entry_loop : entryFor table "re.Pattern.sub.loop" = some Builtin.«re.Pattern.sub.loop» := entryFor_of_tree (by kernel_rfl)
theorem args_sub (a b c : Value) : argsOk "re.Pattern.sub" ⟨[a, b, c], []⟩ := by
  unfold argsOk
  kernel_rfl

theorem words_re3_1 : True := by
  k_with_none
  w_top off
  k_with "MINE ar" => (with_reducible first | assumption | decide | ((show @LT.lt Nat _ _ _); first | exact ar_n1 (by assumption) | exact ar_n2 (by assumption) | exact ar_n6 (by assumption) | exact ar_n12 (by assumption) | exact ar_n13 (by assumption) | exact ar_k1 (by assumption) | exact ar_k2 (by assumption) | exact ar_k3 (by assumption) | exact ar_k4 (by assumption) | exact ar_k8 (by assumption) | exact ar_m1 (by assumption) | exact ar_m2 (by assumption) | exact ar_m3 (by assumption) | exact ar_m4 (by assumption) | exact ar_m5 (by assumption) | exact ar_e4 (by assumption) | exact ar_e5 (by assumption) | exact ar_r1 (by assumption) | exact Nat.lt_succ_self _ | exact ar_r2 (by assumption) (by decide) | exact ar_r3 (by assumption) (by decide) | exact ar_n7 (by assumption) (by assumption) | exact ar_n8 (by assumption) (by assumption) | exact ar_n16 (by assumption) (by assumption) | exact ar_n20 (by assumption) (by assumption) | exact ar_n21 (by assumption) (by assumption) | exact ar_n23 (by assumption) (by assumption) | exact ar_n24 (by assumption) (by assumption) | exact ar_e17 (by assumption) (by assumption) | exact ar_e19 (by assumption) (by assumption) | exact ar_n14 (by assumption) (by assumption) (by assumption) | exact ar_n26 (by assumption) (by assumption) (by assumption) | exact ar_n27 (by assumption) (by assumption) (by assumption) | exact ar_n15 (by assumption) (by assumption) (by assumption) (by assumption) | exact ar_n22 (by assumption) (by assumption) (by assumption) (by assumption)) | ((show @LE.le Nat _ _ _); first | exact Nat.le_refl _ | exact Nat.le_add_right _ _ | exact ar_n3 (by assumption) | exact ar_n4 (by assumption) | exact ar_n5 (by assumption) | exact ar_k7 (by assumption) | exact ar_k10 (by assumption) | exact ar_k13 (by assumption) | exact ar_e1 (by assumption) | exact ar_e2 (by assumption) | exact ar_e3 (by assumption) | exact ar_e6 (by assumption) | exact ar_e7 (by assumption) | exact ar_e8 (by assumption) | exact ar_s1 (by assumption) | exact ar_w2 (by assumption) | exact ar_n25 (by assumption) | exact ar_n9 (by assumption) (by assumption) | exact ar_n17 (by assumption) (by assumption) | exact ar_n28 (by assumption) (by assumption) | exact ar_e9 (by assumption) (by assumption) | exact ar_e10 (by assumption) (by assumption) | exact ar_e18 (by assumption) (by assumption) | exact ar_s3 (by assumption) (by assumption) | exact ar_n10 (by assumption) (by assumption) (by assumption) | exact ar_n11 (by assumption) (by assumption) (by assumption)) | ((show @LT.lt Int _ _ _); first | exact ar_k9 (by assumption) | exact ar_n18 (by assumption) | exact ar_n19 (by assumption) (by assumption)) | ((show @LE.le Int _ _ _); first | exact Int.natCast_nonneg _) | ((show @Eq Nat _ _); first | exact ar_e11 (by assumption) | exact ar_e12 (by assumption) | exact ar_e13 (by assumption) | exact ar_e15 (by assumption) | exact ar_s2 (by assumption) | exact ar_s4 (by assumption) | exact ar_w6 (by assumption) (by assumption) | exact ar_nn (by assumption)) | ((show @Eq Int _ _); first | exact ar_i5 | exact ar_i6 | exact ar_i7 | exact ar_i8 (by assumption)) | ((show ¬ _); first | exact ar_k5 (by assumption) | exact ar_k6 (by assumption) | exact ar_k11 (by assumption) | exact ar_k12 (by assumption) | exact ar_k14 (by assumption) | exact ar_e14 (by assumption) | exact ar_e16 (by assumption) | exact ar_e20 (by assumption) | exact ar_q1 (by assumption) | exact ar_q2 (by assumption) | exact ar_q3 (by assumption) | exact ar_q4 (by assumption) | exact ar_q5 (by assumption) | exact ar_w7 (by assumption) | exact ar_w8 (by assumption) | exact ar_w14 (by assumption) | exact ar_w16 (by assumption) | exact ar_w18 (by assumption) | exact ar_w19 (by assumption) | exact ar_w20 (by assumption) | exact ar_o3 (by assumption) | exact ar_o4 (by assumption) | exact ar_d (by assumption) (by decide) | exact ar_l1 (by assumption) (by assumption) | exact ar_l2 (by assumption) (by assumption) | exact ar_l3 (by assumption) (by assumption) | exact ar_w17 (by assumption) (by assumption) | exact ar_lv (by assumption) (by assumption) (by assumption) | exact ar_nn2 (by assumption)) | ((show _ ∧ _); first | exact ar_w1 (by assumption) | exact ar_w10 (by assumption) | exact ar_w12 (by assumption) | exact ar_w13 (by assumption) | exact ar_o2 (by assumption) | exact ar_w4 (by assumption) (by assumption) | exact ar_i4 (by assumption) (by assumption)) | ((show _ ∨ _); first | exact ar_o1 (by assumption) | exact ar_w3 (by assumption) (by assumption) | exact ar_w5 (by assumption) (by assumption) | exact ar_w9 (by assumption) (by assumption) | exact ar_w11 (by assumption) (by assumption)) | ((show _ ↔ _); first | exact ar_z3 | exact ar_z4 | exact ar_z5) | ((show False); first | exact (ar_f1 (by assumption) (by assumption) (by assumption)).elim | exact (ar_f2 (by assumption) (by assumption) (by assumption)).elim | exact (ar_c1 (by assumption) (by assumption)).elim | exact (ar_c2 (by assumption) (by assumption)).elim | exact (ar_c3 (by assumption) (by assumption)).elim | exact (ar_c4 (by assumption) (by assumption)).elim | exact (ar_c5 (by assumption) (by assumption)).elim | exact (ar_c7 (by assumption) (by assumption)).elim | exact (ar_c8 (by assumption) (by assumption)).elim | exact (ar_c9 (by assumption) (by assumption)).elim | exact (ar_c10 (by assumption) (by assumption)).elim | exact (ar_c11 (by assumption) (by assumption)).elim | exact (ar_c12 (by assumption) (by assumption)).elim | exact (ar_c13 (by assumption) (by assumption)).elim | exact (ar_f3 (by assumption) (by assumption)).elim | exact (ar_f4 (by assumption) (by assumption)).elim | exact (ar_f5 (by assumption) (by assumption)).elim | exact (ar_f6 (by assumption) (by assumption)).elim | exact (ar_f7 (by assumption) (by assumption)).elim | exact (ar_f8 (by assumption) (by assumption)).elim | exact (ar_f9 (by assumption) (by assumption)).elim | exact (ar_f10 (by assumption) (by assumption)).elim) | ((show @Eq _ _ _); first | exact (ar_f1 (by assumption) (by assumption) (by assumption)).elim | exact (ar_f2 (by assumption) (by assumption) (by assumption)).elim | exact (ar_c1 (by assumption) (by assumption)).elim | exact (ar_c2 (by assumption) (by assumption)).elim | exact (ar_c3 (by assumption) (by assumption)).elim | exact (ar_c4 (by assumption) (by assumption)).elim | exact (ar_c5 (by assumption) (by assumption)).elim | exact (ar_c7 (by assumption) (by assumption)).elim | exact (ar_c8 (by assumption) (by assumption)).elim | exact (ar_c9 (by assumption) (by assumption)).elim | exact (ar_c10 (by assumption) (by assumption)).elim | exact (ar_c11 (by assumption) (by assumption)).elim | exact (ar_c12 (by assumption) (by assumption)).elim | exact (ar_c13 (by assumption) (by assumption)).elim | exact (ar_f3 (by assumption) (by assumption)).elim | exact (ar_f4 (by assumption) (by assumption)).elim | exact (ar_f5 (by assumption) (by assumption)).elim | exact (ar_f6 (by assumption) (by assumption)).elim | exact (ar_f7 (by assumption) (by assumption)).elim | exact (ar_f8 (by assumption) (by assumption)).elim | exact (ar_f9 (by assumption) (by assumption)).elim | exact (ar_f10 (by assumption) (by assumption)).elim) | (intro _; first | exact (ar_f1 (by assumption) (by assumption) (by assumption)).elim | exact (ar_f2 (by assumption) (by assumption) (by assumption)).elim | exact (ar_c1 (by assumption) (by assumption)).elim | exact (ar_c2 (by assumption) (by assumption)).elim | exact (ar_c3 (by assumption) (by assumption)).elim | exact (ar_c4 (by assumption) (by assumption)).elim | exact (ar_c5 (by assumption) (by assumption)).elim | exact (ar_c7 (by assumption) (by assumption)).elim | exact (ar_c8 (by assumption) (by assumption)).elim | exact (ar_c9 (by assumption) (by assumption)).elim | exact (ar_c10 (by assumption) (by assumption)).elim | exact (ar_c11 (by assumption) (by assumption)).elim | exact (ar_c12 (by assumption) (by assumption)).elim | exact (ar_c13 (by assumption) (by assumption)).elim | exact (ar_f3 (by assumption) (by assumption)).elim | exact (ar_f4 (by assumption) (by assumption)).elim | exact (ar_f5 (by assumption) (by assumption)).elim | exact (ar_f6 (by assumption) (by assumption)).elim | exact (ar_f7 (by assumption) (by assumption)).elim | exact (ar_f8 (by assumption) (by assumption)).elim | exact (ar_f9 (by assumption) (by assumption)).elim | exact (ar_f10 (by assumption) (by assumption)).elim) | exact ar_i1 (by assumption) | exact ar_i2 (by assumption) | exact ar_i3 (by assumption) (by decide))
  exact True.intro
section
open PySem.Builtin.Re
section
variable {prog : Program} {w : World} {A : Around} {E : Value → Shared → Prop} {s : Shared}

/-- a compiled pattern -/
def IsPat (h : Heap) (a : Addr) (code : Array Nat) (groups : Nat) : Prop :=
  ∃ o v f c oc vs n, h.get? a = some o ∧ o.cls = .type "re.Pattern" ∧ o.dict = none ∧ o.data = .fields #[v, f, .int groups 0, .none, .none, .ref c, .int 0 0] ∧
    h.get? c = some oc ∧ oc.data = .seq vs n ∧ (vs.map reRawOf).map (·.toNat) = code

theorem textOf_str {x : Str} {t : Tok} {Q : Array Nat × Nat → Shared → Prop} (h : Q (x.cps, 0) s) : wpAny (model prog w) A (reTextOf (.str x t)) Q E s := by
  unfold reTextOf
  exact wpAny_bind (wpAny_pure (wpAny_pure h))
theorem noColl {v : Value} {Q : Unit → Shared → Prop} (h : Q () s) : wpAny (model prog w) A (reNoCollectionInside v 0) Q E s := by
  unfold reNoCollectionInside
  rw [if_neg (by decide)]
  exact wpAny_pure h

theorem wholeTarget {a : Addr} {code : Array Nat} {groups : Nat} {x : Str} {t : Tok} {Q : ReTarget → Shared → Prop} (hp : IsPat s.heap a code groups)
    (h : Q { pattern := .ref a, string := .str x t, code, text := x.cps, kind := 0, groups, pos := 0, lim := x.cps.size } s) : wpAny (model prog w) A (reWholeTarget (.ref a) (.str x t)) Q E s := by
  obtain ⟨o, v, f, c, oc, vs, n, ho, _, _, hd, hoc, hdc, hco⟩ := hp
  unfold reWholeTarget
  refine wpAny_bind (wpAny_fieldsOf ho hd ?_)
  refine wpAny_bind (textOf_str ?_)
  dsimp only
  refine wpAny_bind (noColl ?_)
  unfold reRawItems
  refine wpAny_bind (wpAny_bind (wpAny_seqItems hoc hdc (wpAny_pure ?_)))
  refine wpAny_pure ?_
  dsimp only [Option.getD]
  rw [hco]
  exact h

/-- the machine run to its end -/
theorem runToEnd {m : Sre.M} {N : Nat} {Q : Option Sre.M → Shared → Prop} (hN : N < 4 * 2 ^ 64)
    (h : ((m.runFor N).outcome = some .matched ∧ Q (some (m.runFor N)) s) ∨ ((m.runFor N).outcome = some .failed ∧ Q none s)) : wpAny (model prog w) A (reRunToEnd m) Q E s := by
  unfold reRunToEnd
  have ho : (m.runFor N).outcome.isSome = true := by rcases h with ⟨h, _⟩ | ⟨h, _⟩ <;> rw [h] <;> rfl
  refine wpAny_bind (reDrive_wp _ N m hN ho ?_)
  refine wpAny_bind (wpAny_forIn_list _ (fun _ _ s' => s' = s) _ ?_ (fun _ s' e => ?_) _ _ rfl)
  · rintro x rest b _ rfl
    split
    · exact wpAny_bind (wpAny_rule (wpAny_pure rfl))
    · exact wpAny_pure rfl
  · subst e
    rcases h with ⟨h, hq⟩ | ⟨h, hq⟩
    · rw [h]; exact wpAny_pure hq
    · rw [h]; exact wpAny_pure hq
end

theorem esc_punct {c : Nat} (h : alpha c) : Punct c ↔ esc c = true := by
  unfold alpha at h
  rcases h with rfl | rfl | rfl | rfl | rfl | rfl | rfl | rfl | rfl | rfl | rfl <;> decide

theorem get_of_lt {x : Str} {i : Nat} (h : i < x.cps.size) : x.cps[i]? = some x.cps[i] := Array.getElem?_eq_getElem h

open Sre in
theorem search_ok {x : Str} (ha : Alpha x) : ∀ (us : List U) (s : Nat) (first must : Bool) (marks : Array (Option Nat)) (seen : Sre.Seen), At x s us → marks.size = 2 →
    ((∀ u ∈ us, u.e = false) ∧ ∃ N, N ≤ 4 * us.length + 4 ∧ ((stE x.cps x.cps.size s first must marks seen).runFor N).outcome = some .failed) ∨
    ∃ pre d r, us = pre ++ ⟨true, d⟩ :: r ∧ (∀ u ∈ pre, u.e = false) ∧ At x (s + pre.length) (⟨true, d⟩ :: r) ∧
      ∃ N first' must' marks' seen', N ≤ 4 * pre.length + 8 ∧ marks'.size = 2 ∧ (stE x.cps x.cps.size s first must marks seen).runFor N = stE3 x.cps x.cps.size (s + pre.length) first' must' marks' seen' := by
  intro us
  induction us with
  | nil =>
    intro s first must marks seen h hm
    refine .inl ⟨fun u h => (nomatch h), 3, by simp, stepE_end ?_⟩
    rcases h.split with ⟨_, rfl⟩ | ⟨_, _, e, _⟩ | ⟨_, _, _, _, e, _⟩
    · exact Nat.le_refl _
    · cases e
    · cases e
  | cons u us ih =>
    intro s first must marks seen h hm
    rcases h.split with ⟨e, _⟩ | ⟨hk, r, e, hr, hc⟩ | ⟨hk, r, h1, h2, e, hr⟩
    · cases e
    · cases e
      -- one sign: on
      have go : ∃ N marks' seen', N ≤ 4 ∧ marks'.size = 2 ∧ (stE x.cps x.cps.size s first must marks seen).runFor N = stE x.cps x.cps.size (s + 1) false false marks' seen' := by
        by_cases h92 : x.cps[s] = 92
        · obtain ⟨seen1, e1⟩ := stepE_bs (first := first) (must := must) (marks := marks) (seen := seen) hk (by rw [get_of_lt hk, h92])
          have hm' : (marks.setIfInBounds 0 (some (s + 1))).size = 2 := by rw [Array.size_setIfInBounds, hm]
          by_cases h2 : s + 1 < x.cps.size
          · have hp : ¬ Punct x.cps[s + 1] := by rw [esc_punct (ha _ h2), hc h92 h2]; decide
            obtain ⟨seen2, e2⟩ := stepE2_no (first := first) (must := must) (marks := marks) (seen := seen1) hk h2 (get_of_lt h2) hp
            exact ⟨2 + 2, _, seen2, by omega, hm', by rw [runFor_add, e1, e2]⟩
          · obtain ⟨seen2, e2⟩ := stepE2_end (text := x.cps) (first := first) (must := must) (marks := marks) (seen := seen1) hk h2
            exact ⟨2 + 2, _, seen2, by omega, hm', by rw [runFor_add, e1, e2]⟩
        · exact ⟨2, marks, _, by omega, hm, stepE_no hk (get_of_lt hk) h92⟩
      obtain ⟨N, marks', seen', hN, hm', e⟩ := go
      rcases ih (s + 1) false false marks' seen' hr hm' with ⟨h3, N2, hN2, h4⟩ | ⟨pre, d, r', rfl, h3, h4, N2, f2, m2, k2, n2, hN2, hk2, h5⟩
      · refine .inl ⟨fun u hu => ?_, N + N2, ?_, ?_⟩
        · rcases List.mem_cons.mp hu with rfl | hu
          · rfl
          · exact h3 u hu
        · simp only [List.length_cons]; omega
        · rw [runFor_add, e]; exact h4
      · refine .inr ⟨⟨false, x.cps[s]⟩ :: pre, d, r', rfl, fun u hu => ?_, ?_, N + N2, f2, m2, k2, n2, ?_, hk2, ?_⟩
        · rcases List.mem_cons.mp hu with rfl | hu
          · rfl
          · exact h3 u hu
        · rw [List.length_cons, show s + (pre.length + 1) = s + 1 + pre.length by omega]; exact h4
        · simp only [List.length_cons]; omega
        · rw [runFor_add, e, h5, List.length_cons, show s + (pre.length + 1) = s + 1 + pre.length by omega]
    · cases e
      obtain ⟨seen1, e1⟩ := stepE_bs (first := first) (must := must) (marks := marks) (seen := seen) (by omega : s < x.cps.size) (by rw [get_of_lt (by omega : s < x.cps.size), h1])
      obtain ⟨seen2, e2⟩ := stepE2_yes (first := first) (must := must) (marks := marks) (seen := seen1) (by omega : s < x.cps.size) hk (get_of_lt hk) ((esc_punct (ha _ hk)).mpr h2)
      exact .inr ⟨[], _, us, rfl, fun u h => (nomatch h), h, 2 + 5, first, must, marks, seen2, by simp, hm, by rw [runFor_add, e1, e2]; rfl⟩

open Sre in
theorem forSearch_E (text : Array Nat) (s lim : Nat) (must : Bool) :
    ∃ seen, forSearch codeE text 1 s lim must = (if (decide (s > lim) || decide (lim - s < 2)) then
      ({ stE text lim s true must #[none, none] seen with frames := [], weight := 0, lastStart := 0 } : M).say false else stE text lim s true must #[none, none] seen) := ⟨_, rfl⟩
end

theorem words_re4_1 : True := by
  k_with_none
  w_top off
  k_with "MINE ar" => (with_reducible first | assumption | decide | ((show @LT.lt Nat _ _ _); first | exact ar_n1 (by assumption) | exact ar_n2 (by assumption) | exact ar_n6 (by assumption) | exact ar_n12 (by assumption) | exact ar_n13 (by assumption) | exact ar_k1 (by assumption) | exact ar_k2 (by assumption) | exact ar_k3 (by assumption) | exact ar_k4 (by assumption) | exact ar_k8 (by assumption) | exact ar_m1 (by assumption) | exact ar_m2 (by assumption) | exact ar_m3 (by assumption) | exact ar_m4 (by assumption) | exact ar_m5 (by assumption) | exact ar_e4 (by assumption) | exact ar_e5 (by assumption) | exact ar_r1 (by assumption) | exact Nat.lt_succ_self _ | exact ar_r2 (by assumption) (by decide) | exact ar_r3 (by assumption) (by decide) | exact ar_n7 (by assumption) (by assumption) | exact ar_n8 (by assumption) (by assumption) | exact ar_n16 (by assumption) (by assumption) | exact ar_n20 (by assumption) (by assumption) | exact ar_n21 (by assumption) (by assumption) | exact ar_n23 (by assumption) (by assumption) | exact ar_n24 (by assumption) (by assumption) | exact ar_e17 (by assumption) (by assumption) | exact ar_e19 (by assumption) (by assumption) | exact ar_n14 (by assumption) (by assumption) (by assumption) | exact ar_n26 (by assumption) (by assumption) (by assumption) | exact ar_n27 (by assumption) (by assumption) (by assumption) | exact ar_n15 (by assumption) (by assumption) (by assumption) (by assumption) | exact ar_n22 (by assumption) (by assumption) (by assumption) (by assumption)) | ((show @LE.le Nat _ _ _); first | exact Nat.le_refl _ | exact Nat.le_add_right _ _ | exact ar_n3 (by assumption) | exact ar_n4 (by assumption) | exact ar_n5 (by assumption) | exact ar_k7 (by assumption) | exact ar_k10 (by assumption) | exact ar_k13 (by assumption) | exact ar_e1 (by assumption) | exact ar_e2 (by assumption) | exact ar_e3 (by assumption) | exact ar_e6 (by assumption) | exact ar_e7 (by assumption) | exact ar_e8 (by assumption) | exact ar_s1 (by assumption) | exact ar_w2 (by assumption) | exact ar_n25 (by assumption) | exact ar_n9 (by assumption) (by assumption) | exact ar_n17 (by assumption) (by assumption) | exact ar_n28 (by assumption) (by assumption) | exact ar_e9 (by assumption) (by assumption) | exact ar_e10 (by assumption) (by assumption) | exact ar_e18 (by assumption) (by assumption) | exact ar_s3 (by assumption) (by assumption) | exact ar_n10 (by assumption) (by assumption) (by assumption) | exact ar_n11 (by assumption) (by assumption) (by assumption)) | ((show @LT.lt Int _ _ _); first | exact ar_k9 (by assumption) | exact ar_n18 (by assumption) | exact ar_n19 (by assumption) (by assumption)) | ((show @LE.le Int _ _ _); first | exact Int.natCast_nonneg _) | ((show @Eq Nat _ _); first | exact ar_e11 (by assumption) | exact ar_e12 (by assumption) | exact ar_e13 (by assumption) | exact ar_e15 (by assumption) | exact ar_s2 (by assumption) | exact ar_s4 (by assumption) | exact ar_w6 (by assumption) (by assumption) | exact ar_nn (by assumption)) | ((show @Eq Int _ _); first | exact ar_i5 | exact ar_i6 | exact ar_i7 | exact ar_i8 (by assumption)) | ((show ¬ _); first | exact ar_k5 (by assumption) | exact ar_k6 (by assumption) | exact ar_k11 (by assumption) | exact ar_k12 (by assumption) | exact ar_k14 (by assumption) | exact ar_e14 (by assumption) | exact ar_e16 (by assumption) | exact ar_e20 (by assumption) | exact ar_q1 (by assumption) | exact ar_q2 (by assumption) | exact ar_q3 (by assumption) | exact ar_q4 (by assumption) | exact ar_q5 (by assumption) | exact ar_w7 (by assumption) | exact ar_w8 (by assumption) | exact ar_w14 (by assumption) | exact ar_w16 (by assumption) | exact ar_w18 (by assumption) | exact ar_w19 (by assumption) | exact ar_w20 (by assumption) | exact ar_o3 (by assumption) | exact ar_o4 (by assumption) | exact ar_d (by assumption) (by decide) | exact ar_l1 (by assumption) (by assumption) | exact ar_l2 (by assumption) (by assumption) | exact ar_l3 (by assumption) (by assumption) | exact ar_w17 (by assumption) (by assumption) | exact ar_lv (by assumption) (by assumption) (by assumption) | exact ar_nn2 (by assumption)) | ((show _ ∧ _); first | exact ar_w1 (by assumption) | exact ar_w10 (by assumption) | exact ar_w12 (by assumption) | exact ar_w13 (by assumption) | exact ar_o2 (by assumption) | exact ar_w4 (by assumption) (by assumption) | exact ar_i4 (by assumption) (by assumption)) | ((show _ ∨ _); first | exact ar_o1 (by assumption) | exact ar_w3 (by assumption) (by assumption) | exact ar_w5 (by assumption) (by assumption) | exact ar_w9 (by assumption) (by assumption) | exact ar_w11 (by assumption) (by assumption)) | ((show _ ↔ _); first | exact ar_z3 | exact ar_z4 | exact ar_z5) | ((show False); first | exact (ar_f1 (by assumption) (by assumption) (by assumption)).elim | exact (ar_f2 (by assumption) (by assumption) (by assumption)).elim | exact (ar_c1 (by assumption) (by assumption)).elim | exact (ar_c2 (by assumption) (by assumption)).elim | exact (ar_c3 (by assumption) (by assumption)).elim | exact (ar_c4 (by assumption) (by assumption)).elim | exact (ar_c5 (by assumption) (by assumption)).elim | exact (ar_c7 (by assumption) (by assumption)).elim | exact (ar_c8 (by assumption) (by assumption)).elim | exact (ar_c9 (by assumption) (by assumption)).elim | exact (ar_c10 (by assumption) (by assumption)).elim | exact (ar_c11 (by assumption) (by assumption)).elim | exact (ar_c12 (by assumption) (by assumption)).elim | exact (ar_c13 (by assumption) (by assumption)).elim | exact (ar_f3 (by assumption) (by assumption)).elim | exact (ar_f4 (by assumption) (by assumption)).elim | exact (ar_f5 (by assumption) (by assumption)).elim | exact (ar_f6 (by assumption) (by assumption)).elim | exact (ar_f7 (by assumption) (by assumption)).elim | exact (ar_f8 (by assumption) (by assumption)).elim | exact (ar_f9 (by assumption) (by assumption)).elim | exact (ar_f10 (by assumption) (by assumption)).elim) | ((show @Eq _ _ _); first | exact (ar_f1 (by assumption) (by assumption) (by assumption)).elim | exact (ar_f2 (by assumption) (by assumption) (by assumption)).elim | exact (ar_c1 (by assumption) (by assumption)).elim | exact (ar_c2 (by assumption) (by assumption)).elim | exact (ar_c3 (by assumption) (by assumption)).elim | exact (ar_c4 (by assumption) (by assumption)).elim | exact (ar_c5 (by assumption) (by assumption)).elim | exact (ar_c7 (by assumption) (by assumption)).elim | exact (ar_c8 (by assumption) (by assumption)).elim | exact (ar_c9 (by assumption) (by assumption)).elim | exact (ar_c10 (by assumption) (by assumption)).elim | exact (ar_c11 (by assumption) (by assumption)).elim | exact (ar_c12 (by assumption) (by assumption)).elim | exact (ar_c13 (by assumption) (by assumption)).elim | exact (ar_f3 (by assumption) (by assumption)).elim | exact (ar_f4 (by assumption) (by assumption)).elim | exact (ar_f5 (by assumption) (by assumption)).elim | exact (ar_f6 (by assumption) (by assumption)).elim | exact (ar_f7 (by assumption) (by assumption)).elim | exact (ar_f8 (by assumption) (by assumption)).elim | exact (ar_f9 (by assumption) (by assumption)).elim | exact (ar_f10 (by assumption) (by assumption)).elim) | (intro _; first | exact (ar_f1 (by assumption) (by assumption) (by assumption)).elim | exact (ar_f2 (by assumption) (by assumption) (by assumption)).elim | exact (ar_c1 (by assumption) (by assumption)).elim | exact (ar_c2 (by assumption) (by assumption)).elim | exact (ar_c3 (by assumption) (by assumption)).elim | exact (ar_c4 (by assumption) (by assumption)).elim | exact (ar_c5 (by assumption) (by assumption)).elim | exact (ar_c7 (by assumption) (by assumption)).elim | exact (ar_c8 (by assumption) (by assumption)).elim | exact (ar_c9 (by assumption) (by assumption)).elim | exact (ar_c10 (by assumption) (by assumption)).elim | exact (ar_c11 (by assumption) (by assumption)).elim | exact (ar_c12 (by assumption) (by assumption)).elim | exact (ar_c13 (by assumption) (by assumption)).elim | exact (ar_f3 (by assumption) (by assumption)).elim | exact (ar_f4 (by assumption) (by assumption)).elim | exact (ar_f5 (by assumption) (by assumption)).elim | exact (ar_f6 (by assumption) (by assumption)).elim | exact (ar_f7 (by assumption) (by assumption)).elim | exact (ar_f8 (by assumption) (by assumption)).elim | exact (ar_f9 (by assumption) (by assumption)).elim | exact (ar_f10 (by assumption) (by assumption)).elim) | exact ar_i1 (by assumption) | exact ar_i2 (by assumption) | exact ar_i3 (by assumption) (by decide))
  exact True.intro
section
open PySem.Builtin.Re
theorem At.short {x : Str} {s : Nat} {us : List U} (h : At x s us) (h2 : x.cps.size - s < 2) : ∀ u ∈ us, u.e = false := by
  rcases h.split with ⟨rfl, _⟩ | ⟨hk, r, rfl, hr, _⟩ | ⟨hk, _, _, _, _, _⟩
  · exact fun u hu => (nomatch hu)
  · rcases hr.split with ⟨rfl, _⟩ | ⟨hk2, _, _, _, _⟩ | ⟨hk2, _, _, _, _, _⟩
    · intro u hu
      rw [List.mem_singleton.mp hu]
    · omega
    · omega
  · omega

abbrev tgtE (x : Str) (t : Tok) : ReTarget := { pattern := .ref 69, string := .str x t, code := codeE, text := x.cps, kind := 0, groups := 1, pos := 0, lim := x.cps.size }

section
variable {prog : Program} {w : World} {A : Around} {E : Value → Shared → Prop} {s : Shared}
theorem nextFound {x : Str} {t : Tok} {k : Nat} {us : List U} {Q : Option Sre.M → Shared → Prop} (hx : Alpha x) (h : At x k us) (hsz : x.cps.size < 1000) (h0 : (∀ u ∈ us, u.e = false) → Q none s)
    (h1 : ∀ pre d r first must marks seen, us = pre ++ ⟨true, d⟩ :: r → (∀ u ∈ pre, u.e = false) → At x (k + pre.length) (⟨true, d⟩ :: r) → marks.size = 2 → Q (some (stE3 x.cps x.cps.size (k + pre.length) first must marks seen)) s) :
    wpAny (model prog w) A (reNextFound (tgtE x t) k false) Q E s := by
  unfold reNextFound
  dsimp only
  obtain ⟨seen, e⟩ := forSearch_E x.cps k x.cps.size false
  rw [e]
  split
  · rename_i hc
    have hle := h.le
    have hc' : x.cps.size - k < 2 := by
      rcases Bool.or_eq_true_iff.mp hc with q | q
      · have := of_decide_eq_true q; omega
      · exact of_decide_eq_true q
    exact runToEnd (N := 1) (by decide) (.inr ⟨rfl, h0 (h.short hc')⟩)
  · have hul : ∀ (us : List U) (k : Nat), At x k us → us.length ≤ x.cps.size - k := by
      intro us
      induction us with
      | nil => intro k _; simp
      | cons u us ih =>
        intro k h
        rcases h.split with ⟨e, _⟩ | ⟨hk, r, e, hr, _⟩ | ⟨hk, r, _, _, e, hr⟩
        · cases e
        · cases e; have := ih _ hr; simp only [List.length_cons]; omega
        · cases e; have := ih _ hr; simp only [List.length_cons]; omega
    have hl := hul us k h
    rcases search_ok hx us k true false #[none, none] seen h rfl with ⟨h3, N, hN, h4⟩ | ⟨pre, d, r, rfl, h3, h4, N, f2, m2, k2, n2, hN, hk2, h5⟩
    · exact runToEnd (N := N) (by have : (4 : Nat) * 2 ^ 64 > 100000 := by decide
                                  omega) (.inr ⟨h4, h0 h3⟩)
    · have hl2 : pre.length ≤ (pre ++ (⟨true, d⟩ : U) :: r).length := by simp
      refine runToEnd (N := N) (by have : (4 : Nat) * 2 ^ 64 > 100000 := by decide
                                   omega) (.inl ⟨?_, ?_⟩)
      · rw [h5]; rfl
      · rw [h5]; exact h1 pre d r f2 m2 k2 n2 rfl h3 h4 hk2

abbrev spanTup (p : Nat) : Obj := { cls := .type "tuple", data := .seq [rawInt p, rawInt (p + 2), rawInt (p + 1), rawInt (p + 2)].toArray }
abbrev matchObj (x : Str) (t : Tok) (b : Addr) : Obj := { cls := .type "re.Match", data := .fields [.str x t, .ref 69, rawInt 0, rawInt x.cps.size, rawInt 1, .ref b].toArray }

theorem newMatch {x : Str} {t : Tok} {p : Nat} {first must : Bool} {marks : Array (Option Nat)} {seen : Sre.Seen} {h₀ : Heap} {L : Addr} {m : Str → Option Value} {news : List (Addr × Obj)} {Q : Value → Shared → Prop} (hm : marks.size = 2)
    (F : Fr h₀ L s.heap m) (N : News h₀ L s.heap news)
    (h : ∀ a b h', Fr h₀ L h' m → News h₀ L h' ((a, matchObj x t b) :: (b, spanTup p) :: news) → (∀ q ∈ news, q.1 < b) → b < a → Q (.ref a) { s with heap := h' }) :
    wpAny (model prog w) A (reNewMatch (.ref 69) (.str x t) 1 0 x.cps.size (stE3 x.cps x.cps.size p first must marks seen)) Q E s := by
  have e0 : (stE3 x.cps x.cps.size p first must marks seen).marks.getD 0 none = some (p + 1) := by
    simp [stE3, stE, hm]
  have e1 : (stE3 x.cps x.cps.size p first must marks seen).marks.getD 1 none = some (p + 2) := by
    simp [stE3, stE, hm]
  unfold reNewMatch
  simp only [show List.range 1 = [0] from rfl, List.flatMap_cons, List.flatMap_nil, List.append_nil, List.any_cons, List.any_nil, Bool.or_false, Nat.mul_zero, Nat.zero_add, e0, e1]
  have e2 : (stE3 x.cps x.cps.size p first must marks seen).lastmark = 1 := rfl
  simp only [e2]
  rw [if_neg (by simp)]
  simp only [show ((2 * 0 + 1 : Nat) : Int) ≤ 1 from by decide, if_true]
  have e3 : ((stE3 x.cps x.cps.size p first must marks seen).handed : Int) = (p : Int) + 2 := rfl
  simp only [e3, show (stE3 x.cps x.cps.size p first must marks seen).start = p from rfl, show (stE3 x.cps x.cps.size p first must marks seen).lastindex = 1 from rfl]
  refine wpAny_bind (newTuple_N F N ?_)
  intro h1 F1 N1
  unfold newFields
  refine wpAny_newObj_type ?_
  have l1 : ∀ q ∈ news, q.1 < s.heap.objs.size := fun q hq => Heap.lt_size (N q hq).1
  have l2 : s.heap.objs.size < h1.objs.size := Heap.lt_size (N1 _ (.head _)).1
  exact h _ _ _ (F1.push _) (N1.push F1 _) l1 l2

theorem group_E {x : Str} {t u : Tok} {p a b : Nat} {h₀ : Heap} {L : Addr} {news : List (Addr × Obj)} {Q : Value → Shared → Prop} (hx : x.cps.size < 1000)
    (N : News h₀ L s.heap news) (ha : (a, matchObj x t b) ∈ news) (hb : (b, spanTup p) ∈ news)
    (h : ∀ k, Q (.str ⟨x.cps.extract (p + 1) (p + 2)⟩ k) { s with toks := k + 1 }) :
    wpAny (model prog w) A (call (.builtin "re.Match.group") [.ref a, .int 1 u]) Q E s := by
  have hT : s.TypeIs (.ref a) "re.Match" := ⟨_, N.get ha, rfl⟩
  refine wpAny_call_entry slot_group hT entry_group ?_ ?_
  · unfold Builtin.«re.Match.group»
    refine wpAny_bind (wpAny_pure ?_)
    dsimp only
    unfold reFound
    refine wpAny_bind (wpAny_bind (wpAny_fieldsOf (N.get ha) rfl ?_))
    unfold reRawItems
    refine wpAny_bind (wpAny_bind (wpAny_seqItems (N.get hb) rfl (wpAny_pure ?_)))
    refine wpAny_pure ?_
    unfold reGroupNumber
    refine wpAny_bind (wpAny_bind (wpAny_pure ?_))
    dsimp only
    rw [if_pos (show ((some (1 : Int)).isSome = true) from rfl)]
    have hI : ∀ {Q' : Int → Shared → Prop} {s' : Shared}, Q' 1 s' → wpAny (model prog w) A.in1 (asIndex (.int 1 u)) Q' (fun e s' => E e s') s' := fun hq => by
      unfold asIndex
      exact wpAny_bind (wpAny_pure (wpAny_pure hq))
    refine wpAny_bind (hI ?_)
    rw [if_neg (by simp)]
    refine wpAny_pure ?_
    refine wpAny_bind ?_
    unfold reGroupText
    have e1 : (Array.map reRawOf ((some #[rawInt (p : Int), rawInt ((p : Int) + 2), rawInt ((p : Int) + 1), rawInt ((p : Int) + 2)]).getD #[])) = #[(p : Int), (p : Int) + 2, (p : Int) + 1, (p : Int) + 2] := by simp [reRawOf, rawInt]
    dsimp only
    rw [e1]
    simp only [show ((1 : Int).toNat) = 1 from rfl, Nat.mul_one]
    have e2 : (#[(p : Int), (p : Int) + 2, (p : Int) + 1, (p : Int) + 2] : Array Int).getD 2 (-1) = ((p + 1 : Nat) : Int) := rfl
    have e3 : (#[(p : Int), (p : Int) + 2, (p : Int) + 1, (p : Int) + 2] : Array Int).getD (2 + 1) (-1) = ((p + 2 : Nat) : Int) := rfl
    rw [e2, e3]
    rw [if_neg (by simp; omega)]
    refine wpAny_bind (textOf_str ?_)
    unfold reSlice
    dsimp only
    rw [if_pos (by decide)]
    refine wpAny_mkStr ?_ ?_
    · refine wpAny_pure ⟨_, rfl, ?_⟩
      exact h _
    · simp only [Str.length, Array.size_extract]
      rw [sizeLine_eq]
      omega
  · unfold argsOk
    kernel_rfl

theorem updSeq {P : Addr} {its : Array Value} {n : Nat} {v : Value} {h₀ : Heap} {L : Addr} {m : Str → Option Value} {news : List (Addr × Obj)} {Q : Unit → Shared → Prop} (F : Fr h₀ L s.heap m) (N : News h₀ L s.heap ((P, listOf its n) :: news)) (hd : ∀ q ∈ news, q.1 ≠ P) (hz : its.size < 1000)
    (h : ∀ h', Fr h₀ L h' m → News h₀ L h' ((P, listOf (its.push v) (n + 1)) :: news) → Q () { s with heap := h' }) : wpAny (model prog w) A (updateSeq P (·.push v)) Q E s := by
  have z := N (P, listOf its n) (.head _)
  refine wpAny_updateSeq z.1 rfl ?_ (by rw [sizeLine_eq]; omega) (by rw [sizeLine_eq]; simp; omega)
  have hs := Heap.SameBut.update s.heap P (Obj.mapSeq (·.push v))
  refine h _ (F.change hs z.2.1 z.2.2) (N.setHead hd hs ?_)
  rw [Heap.get?_update_self _ z.1 rfl]
  simp [Obj.mapSeq]
end
end

theorem words_re5_1 : True := by
  k_with_none
  w_top off
  k_with "MINE ar" => (with_reducible first | assumption | decide | ((show @LT.lt Nat _ _ _); first | exact ar_n1 (by assumption) | exact ar_n2 (by assumption) | exact ar_n6 (by assumption) | exact ar_n12 (by assumption) | exact ar_n13 (by assumption) | exact ar_k1 (by assumption) | exact ar_k2 (by assumption) | exact ar_k3 (by assumption) | exact ar_k4 (by assumption) | exact ar_k8 (by assumption) | exact ar_m1 (by assumption) | exact ar_m2 (by assumption) | exact ar_m3 (by assumption) | exact ar_m4 (by assumption) | exact ar_m5 (by assumption) | exact ar_e4 (by assumption) | exact ar_e5 (by assumption) | exact ar_r1 (by assumption) | exact Nat.lt_succ_self _ | exact ar_r2 (by assumption) (by decide) | exact ar_r3 (by assumption) (by decide) | exact ar_n7 (by assumption) (by assumption) | exact ar_n8 (by assumption) (by assumption) | exact ar_n16 (by assumption) (by assumption) | exact ar_n20 (by assumption) (by assumption) | exact ar_n21 (by assumption) (by assumption) | exact ar_n23 (by assumption) (by assumption) | exact ar_n24 (by assumption) (by assumption) | exact ar_e17 (by assumption) (by assumption) | exact ar_e19 (by assumption) (by assumption) | exact ar_n14 (by assumption) (by assumption) (by assumption) | exact ar_n26 (by assumption) (by assumption) (by assumption) | exact ar_n27 (by assumption) (by assumption) (by assumption) | exact ar_n15 (by assumption) (by assumption) (by assumption) (by assumption) | exact ar_n22 (by assumption) (by assumption) (by assumption) (by assumption)) | ((show @LE.le Nat _ _ _); first | exact Nat.le_refl _ | exact Nat.le_add_right _ _ | exact ar_n3 (by assumption) | exact ar_n4 (by assumption) | exact ar_n5 (by assumption) | exact ar_k7 (by assumption) | exact ar_k10 (by assumption) | exact ar_k13 (by assumption) | exact ar_e1 (by assumption) | exact ar_e2 (by assumption) | exact ar_e3 (by assumption) | exact ar_e6 (by assumption) | exact ar_e7 (by assumption) | exact ar_e8 (by assumption) | exact ar_s1 (by assumption) | exact ar_w2 (by assumption) | exact ar_n25 (by assumption) | exact ar_n9 (by assumption) (by assumption) | exact ar_n17 (by assumption) (by assumption) | exact ar_n28 (by assumption) (by assumption) | exact ar_e9 (by assumption) (by assumption) | exact ar_e10 (by assumption) (by assumption) | exact ar_e18 (by assumption) (by assumption) | exact ar_s3 (by assumption) (by assumption) | exact ar_n10 (by assumption) (by assumption) (by assumption) | exact ar_n11 (by assumption) (by assumption) (by assumption)) | ((show @LT.lt Int _ _ _); first | exact ar_k9 (by assumption) | exact ar_n18 (by assumption) | exact ar_n19 (by assumption) (by assumption)) | ((show @LE.le Int _ _ _); first | exact Int.natCast_nonneg _) | ((show @Eq Nat _ _); first | exact ar_e11 (by assumption) | exact ar_e12 (by assumption) | exact ar_e13 (by assumption) | exact ar_e15 (by assumption) | exact ar_s2 (by assumption) | exact ar_s4 (by assumption) | exact ar_w6 (by assumption) (by assumption) | exact ar_nn (by assumption)) | ((show @Eq Int _ _); first | exact ar_i5 | exact ar_i6 | exact ar_i7 | exact ar_i8 (by assumption)) | ((show ¬ _); first | exact ar_k5 (by assumption) | exact ar_k6 (by assumption) | exact ar_k11 (by assumption) | exact ar_k12 (by assumption) | exact ar_k14 (by assumption) | exact ar_e14 (by assumption) | exact ar_e16 (by assumption) | exact ar_e20 (by assumption) | exact ar_q1 (by assumption) | exact ar_q2 (by assumption) | exact ar_q3 (by assumption) | exact ar_q4 (by assumption) | exact ar_q5 (by assumption) | exact ar_w7 (by assumption) | exact ar_w8 (by assumption) | exact ar_w14 (by assumption) | exact ar_w16 (by assumption) | exact ar_w18 (by assumption) | exact ar_w19 (by assumption) | exact ar_w20 (by assumption) | exact ar_o3 (by assumption) | exact ar_o4 (by assumption) | exact ar_d (by assumption) (by decide) | exact ar_l1 (by assumption) (by assumption) | exact ar_l2 (by assumption) (by assumption) | exact ar_l3 (by assumption) (by assumption) | exact ar_w17 (by assumption) (by assumption) | exact ar_lv (by assumption) (by assumption) (by assumption) | exact ar_nn2 (by assumption)) | ((show _ ∧ _); first | exact ar_w1 (by assumption) | exact ar_w10 (by assumption) | exact ar_w12 (by assumption) | exact ar_w13 (by assumption) | exact ar_o2 (by assumption) | exact ar_w4 (by assumption) (by assumption) | exact ar_i4 (by assumption) (by assumption)) | ((show _ ∨ _); first | exact ar_o1 (by assumption) | exact ar_w3 (by assumption) (by assumption) | exact ar_w5 (by assumption) (by assumption) | exact ar_w9 (by assumption) (by assumption) | exact ar_w11 (by assumption) (by assumption)) | ((show _ ↔ _); first | exact ar_z3 | exact ar_z4 | exact ar_z5) | ((show False); first | exact (ar_f1 (by assumption) (by assumption) (by assumption)).elim | exact (ar_f2 (by assumption) (by assumption) (by assumption)).elim | exact (ar_c1 (by assumption) (by assumption)).elim | exact (ar_c2 (by assumption) (by assumption)).elim | exact (ar_c3 (by assumption) (by assumption)).elim | exact (ar_c4 (by assumption) (by assumption)).elim | exact (ar_c5 (by assumption) (by assumption)).elim | exact (ar_c7 (by assumption) (by assumption)).elim | exact (ar_c8 (by assumption) (by assumption)).elim | exact (ar_c9 (by assumption) (by assumption)).elim | exact (ar_c10 (by assumption) (by assumption)).elim | exact (ar_c11 (by assumption) (by assumption)).elim | exact (ar_c12 (by assumption) (by assumption)).elim | exact (ar_c13 (by assumption) (by assumption)).elim | exact (ar_f3 (by assumption) (by assumption)).elim | exact (ar_f4 (by assumption) (by assumption)).elim | exact (ar_f5 (by assumption) (by assumption)).elim | exact (ar_f6 (by assumption) (by assumption)).elim | exact (ar_f7 (by assumption) (by assumption)).elim | exact (ar_f8 (by assumption) (by assumption)).elim | exact (ar_f9 (by assumption) (by assumption)).elim | exact (ar_f10 (by assumption) (by assumption)).elim) | ((show @Eq _ _ _); first | exact (ar_f1 (by assumption) (by assumption) (by assumption)).elim | exact (ar_f2 (by assumption) (by assumption) (by assumption)).elim | exact (ar_c1 (by assumption) (by assumption)).elim | exact (ar_c2 (by assumption) (by assumption)).elim | exact (ar_c3 (by assumption) (by assumption)).elim | exact (ar_c4 (by assumption) (by assumption)).elim | exact (ar_c5 (by assumption) (by assumption)).elim | exact (ar_c7 (by assumption) (by assumption)).elim | exact (ar_c8 (by assumption) (by assumption)).elim | exact (ar_c9 (by assumption) (by assumption)).elim | exact (ar_c10 (by assumption) (by assumption)).elim | exact (ar_c11 (by assumption) (by assumption)).elim | exact (ar_c12 (by assumption) (by assumption)).elim | exact (ar_c13 (by assumption) (by assumption)).elim | exact (ar_f3 (by assumption) (by assumption)).elim | exact (ar_f4 (by assumption) (by assumption)).elim | exact (ar_f5 (by assumption) (by assumption)).elim | exact (ar_f6 (by assumption) (by assumption)).elim | exact (ar_f7 (by assumption) (by assumption)).elim | exact (ar_f8 (by assumption) (by assumption)).elim | exact (ar_f9 (by assumption) (by assumption)).elim | exact (ar_f10 (by assumption) (by assumption)).elim) | (intro _; first | exact (ar_f1 (by assumption) (by assumption) (by assumption)).elim | exact (ar_f2 (by assumption) (by assumption) (by assumption)).elim | exact (ar_c1 (by assumption) (by assumption)).elim | exact (ar_c2 (by assumption) (by assumption)).elim | exact (ar_c3 (by assumption) (by assumption)).elim | exact (ar_c4 (by assumption) (by assumption)).elim | exact (ar_c5 (by assumption) (by assumption)).elim | exact (ar_c7 (by assumption) (by assumption)).elim | exact (ar_c8 (by assumption) (by assumption)).elim | exact (ar_c9 (by assumption) (by assumption)).elim | exact (ar_c10 (by assumption) (by assumption)).elim | exact (ar_c11 (by assumption) (by assumption)).elim | exact (ar_c12 (by assumption) (by assumption)).elim | exact (ar_c13 (by assumption) (by assumption)).elim | exact (ar_f3 (by assumption) (by assumption)).elim | exact (ar_f4 (by assumption) (by assumption)).elim | exact (ar_f5 (by assumption) (by assumption)).elim | exact (ar_f6 (by assumption) (by assumption)).elim | exact (ar_f7 (by assumption) (by assumption)).elim | exact (ar_f8 (by assumption) (by assumption)).elim | exact (ar_f9 (by assumption) (by assumption)).elim | exact (ar_f10 (by assumption) (by assumption)).elim) | exact ar_i1 (by assumption) | exact ar_i2 (by assumption) | exact ar_i3 (by assumption) (by decide))
  exact True.intro
section
open PySem.Builtin.Re
def cat (ys : List Str) : List Nat := ys.flatMap (·.cps.toList)
def plain (us : List U) : List Nat := us.map (·.c)

theorem flat_plain {us : List U} (h : ∀ u ∈ us, u.e = false) : flat us = plain us := by
  induction us with
  | nil => rfl
  | cons u us ih =>
    have h1 := h u (.head _)
    have h2 := ih fun v hv => h v (.tail _ hv)
    simp only [flat, plain, List.flatMap_cons, List.map_cons] at *
    rw [h2]
    simp [U.chars, h1]

theorem length_plain {us : List U} (h : ∀ u ∈ us, u.e = false) : (flat us).length = us.length := by rw [flat_plain h]; simp [plain]
/-- what lies between a place and an escaped sign behind plain units -/
theorem At.cut {x : Str} {k : Nat} {pre r : List U} (h : At x k (pre ++ r)) (hp : ∀ u ∈ pre, u.e = false) : (x.cps.extract k (k + pre.length)).toList = plain pre := by
  have e := h.flat
  rw [flat_append] at e
  rw [Array.toList_extract, List.extract_eq_take_drop, ← e, Nat.add_sub_cancel_left, ← length_plain hp, List.take_left, flat_plain hp]
theorem At.sign {x : Str} {k : Nat} {d : Nat} {r : List U} (h : At x k (⟨true, d⟩ :: r)) : x.cps.extract (k + 1) (k + 2) = #[d] ∧ At x (k + 2) r ∧ k + 1 < x.cps.size := by
  rcases h.split with ⟨e, _⟩ | ⟨_, _, e, _⟩ | ⟨hk, r', h1, h2, e, hr⟩
  · cases e
  · cases e
  · cases e
    refine ⟨?_, hr, hk⟩
    refine Array.toList_inj.mp ?_
    rw [Array.toList_extract, List.extract_eq_take_drop, drop_at hk, show k + 2 - (k + 1) = 1 by omega]
    rfl
theorem At.rest {x : Str} {k : Nat} {us : List U} (h : At x k us) (hp : ∀ u ∈ us, u.e = false) : (x.cps.extract k x.cps.size).toList = plain us := by
  rw [Array.toList_extract, List.extract_eq_take_drop, ← h.flat, flat_plain hp]
  refine List.take_of_length_le ?_
  have e := h.flat
  have e2 := congrArg List.length e
  rw [length_plain hp] at e2
  simp only [plain, List.length_map]
  simp at e2
  omega
theorem join_cat (ys : List Str) : (Txt.join PySem.Str.empty ys).cps.toList = cat ys := by
  have key : ∀ (ys : List Str) (acc : Array Nat), (ys.foldl (fun acc p => acc ++ PySem.Str.empty.cps ++ p.cps) acc).toList = acc.toList ++ cat ys := by
    intro ys
    induction ys with
    | nil => intro acc; simp [cat]
    | cons y ys ih =>
      intro acc
      rw [List.foldl_cons, ih]
      simp [cat, PySem.Str.empty]
  unfold Txt.join PySem.Builtin.Str.glued
  cases ys with
  | nil => rfl
  | cons y ys =>
    dsimp only [List.drop, List.headD]
    rw [key]
    simp [cat]
theorem sum_cat (ys : List Str) : (ys.map (·.length)).sum = (cat ys).length := by
  induction ys with
  | nil => rfl
  | cons y ys ih => simp [cat, PySem.Str.length] at *; try omega
theorem cat_one (y : Str) : cat [y] = y.cps.toList := by simp [cat]
theorem cat_append (a b : List Str) : cat (a ++ b) = cat a ++ cat b := by simp [cat]
theorem strs_push {us : List Value} {ws : List Str} {x : Str} {t : Tok} (h : StrsAre us ws) : StrsAre (us ++ [.str x t]) (ws ++ [x]) := h.append' (.cons _ _ .nil)

section
variable {prog : Program} {w : World} {A : Around} {s : Shared}

abbrev subArgs (x : Str) (tt : Tok) (lam P : Addr) (n k : Nat) : Args :=
  ⟨[.ref 69, .str x tt, .ref lam, rawInt 1, rawInt 0, rawInt n, rawInt k, rawInt k, .bool false, .ref P, .bool false], []⟩

/-- what the call of the handed function does -/
def LamSpec (prog : Program) (w : World) (A : Around) (h₀ : Heap) (L : Addr) (m : Str → Option Value) (x : Str) (t : Tok) (lam : Addr) (news : List (Addr × Obj)) : Prop :=
  ∀ (a b p : Nat) (s : Shared) (news' : List (Addr × Obj)) (Q E : Value → Shared → Prop), Fr h₀ L s.heap m → News h₀ L s.heap news' → (∀ q ∈ news, q ∈ news') → (a, matchObj x t b) ∈ news' → (b, spanTup p) ∈ news' →
    (∀ k h' tk', Fr h₀ L h' m → News h₀ L h' news' → Q (.str ⟨x.cps.extract (p + 1) (p + 2)⟩ k) { s with heap := h', toks := tk' }) →
    wpAny (model prog w) A.in1 (call (.ref lam) [.ref a]) Q E s

theorem sub_loop {h₀ : Heap} {L lam P : Addr} {m : Str → Option Value} {x : Str} {tt : Tok} {news : List (Addr × Obj)} {R : Result → Shared → Prop} (hx : Alpha x) (hsz : x.cps.size < 100)
    (hpat : ∀ h, Fr h₀ L h m → IsPat h 69 codeE 1) (hP : ∀ q ∈ news, q.1 < P) (hlam : LamSpec prog w A h₀ L m x tt lam news) :
    ∀ (j : Nat) (us : List U) (k n : Nat) (pcs : List Value) (ys : List Str) (ep : Nat) (s : Shared), us.length < j → At x k us → Fr h₀ L s.heap m → News h₀ L s.heap ((P, listOf pcs.toArray ep) :: news) → StrsAre pcs ys →
      (cat ys).length ≤ k → ys.length ≤ 2 * k →
      (∀ t h' tk', Fr h₀ L h' m → News h₀ L h' news → R (.ok (.ret (.str ⟨(cat ys ++ plain us).toArray⟩ t))) { s with heap := h', toks := tk' }) →
      codeAny (model prog w) A (.builtin "re.Pattern.sub.loop" (subArgs x tt lam P n k)) R s := by
  intro j
  induction j with
  | zero => intro us k n pcs ys ep s h; exact absurd h (Nat.not_lt_zero _)
  | succ j ih =>
    intro us k n pcs ys ep s hj hA F N hs hc hl hret
    have hle := hA.le
    refine codeAny_builtin entry_loop ?_
    rw [Around.under_plainId (by decide +kernel)]
    unfold Builtin.«re.Pattern.sub.loop»
    dsimp only [rawInt]
    refine wpAny_bind (wholeTarget (hpat _ F) ?_)
    rw [if_neg (by decide), if_neg (by simp)]
    have eN : ((k : Int).toNat) = k := Int.toNat_natCast k
    rw [eN]
    refine wpAny_bind (nextFound hx hA (by omega) ?_ ?_)
    · intro hall
      dsimp only
      have hcut := hA.rest hall
      have fin : ∀ (pcs1 : List Value) (ys1 : List Str) (ep1 : Nat) (s1 : Shared) (E1 : Value → Shared → Prop), (∀ h' tk', ({ s with heap := h', toks := tk' } : Shared) = { s1 with heap := h', toks := tk' }) → Fr h₀ L s1.heap m → News h₀ L s1.heap ((P, listOf pcs1.toArray ep1) :: news) → StrsAre pcs1 ys1 →
          cat ys1 = cat ys ++ plain us → ys1.length ≤ ys.length + 1 →
          wpAny (model prog w) A.in1 (reSlice x.cps 0 0 0) (fun joiner s₁ => wpAny (model prog w) A.in1 (seqItems? (.ref P)) (fun it s₂ => wpAny (model prog w) A.in1 (if ((it.getD #[]).isEmpty) = true then (do let text ← pure joiner; ret text) else do let text ← call (.builtin "str.join") [joiner, .ref P]; ret text) (fun fin s' => match fin with | .done f => R (.ok f) s' | .again c' => c'.quiet = true ∧ codeAny (model prog w) A c' R s') E1 s₂) E1 s₁) E1 s1 := by
        intro pcs1 ys1 ep1 s1 E1 he F1 N1 hs1 hc1 hl1
        unfold reSlice
        rw [if_pos (by decide)]
        refine wpAny_mkStr ?_ (by simp [PySem.Str.length])
        have hP1 := (N1 (P, listOf pcs1.toArray ep1) (.head _)).1
        refine wpAny_seqItems hP1 rfl ?_
        have e0 : (⟨x.cps.extract 0 0⟩ : Str) = PySem.Str.empty := by simp [PySem.Str.empty]
        rw [e0]
        have hlen := hs1.length
        split
        · rename_i hemp
          refine wpAny_bind (wpAny_pure (wpAny_pure ?_))
          have : pcs1 = [] := by simpa using hemp
          subst this
          cases hs1
          have e1 : (⟨(cat ys ++ plain us).toArray⟩ : Str) = PySem.Str.empty := by rw [← hc1]; rfl
          have hr := hret s1.toks s1.heap (s1.toks + 1) F1 (fun q hq => N1 q (.tail _ hq))
          rw [e1, he] at hr
          exact hr
        · refine wpAny_bind (join_list (x := PySem.Str.empty) ⟨_, hP1, rfl, _, rfl⟩ hs1 ?_ fun t' k' => wpAny_pure ?_)
          · rw [sum_cat, hc1]
            have := hA.rest hall
            have h9 := congrArg List.length this
            simp [PySem.Str.empty, PySem.Str.length, plain] at h9 ⊢
            omega
          · have e1 : (⟨(cat ys ++ plain us).toArray⟩ : Str) = Txt.join PySem.Str.empty ys1 := by
              rw [← hc1, ← join_cat]
            have hr := hret t' s1.heap k' F1 (fun q hq => N1 q (.tail _ hq))
            rw [e1, he] at hr
            exact hr
      split
      · simp only [show ((0 : Nat) == 0) = true from rfl, if_true, Bool.false_eq_true, if_false]
        unfold reSlice
        rw [if_pos (by decide)]
        refine wpAny_bind (wpAny_mkStr ?_ ?_)
        · refine wpAny_bind (updSeq (s := { s with toks := s.toks + 1 }) F N (fun q hq => Nat.ne_of_lt (hP q hq)) (by simp [hs.length]; omega) ?_)
          intro h1 F1 N1
          have hh := fin (pcs ++ [.str ⟨x.cps.extract k x.cps.size⟩ s.toks]) (ys ++ [⟨x.cps.extract k x.cps.size⟩]) (ep + 1) { s with heap := h1, toks := s.toks + 1 } (fun e s' => R (.error e) s') (fun _ _ => rfl) F1
            (by simpa using N1) (strs_push hs) (by rw [cat_append, cat_one]; exact congrArg (cat ys ++ ·) hcut) (by simp)
          unfold reSlice at hh
          rw [if_pos (by decide)] at hh
          exact wpAny_bind (wpAny_mono hh (fun joiner s1 h2 => wpAny_bind h2) (fun _ _ h => h))
        · simp only [PySem.Str.length, Array.size_extract]
          rw [sizeLine_eq]
          omega
      · rename_i hk
        simp only [show ((0 : Nat) == 0) = true from rfl, if_true, Bool.false_eq_true, if_false]
        have hus : us = [] := hA.end_ hk
        have hh := fin pcs ys ep s (fun e s' => R (.error e) s') (fun _ _ => rfl) F N hs (by rw [hus]; simp [plain]) (by omega)
        exact wpAny_bind (wpAny_mono hh (fun joiner s1 h2 => wpAny_bind h2) (fun _ _ h => h))
    · intro pre d r first must marks seen e hpre hA2 hm
      dsimp only
      obtain ⟨hsg, hA3, hk2⟩ := hA2.sign
      have estart : (stE3 x.cps x.cps.size (k + pre.length) first must marks seen).start = k + pre.length := rfl
      have ehand : (stE3 x.cps x.cps.size (k + pre.length) first must marks seen).handed = k + pre.length + 2 := rfl
      simp only [estart, ehand, show ((k + pre.length + 2 == k + pre.length) = false) from by simp, show ((1 : Int) == 0) = false from rfl, show ((1 : Int) == 1) = true from rfl, Bool.false_eq_true, if_false, if_true]
      have hcut := At.cut (e ▸ hA) hpre
      have go : ∀ (pcs1 : List Value) (ys1 : List Str) (ep1 : Nat) (s1 : Shared), (∀ h' tk', ({ s with heap := h', toks := tk' } : Shared) = { s1 with heap := h', toks := tk' }) → Fr h₀ L s1.heap m → News h₀ L s1.heap ((P, listOf pcs1.toArray ep1) :: news) → StrsAre pcs1 ys1 →
          cat ys1 = cat ys ++ plain pre → ys1.length ≤ ys.length + 1 →
          wpAny (model prog w) A.in1 (do
            let found ← reNewMatch (.ref 69) (.str x tt) 1 0 x.cps.size (stE3 x.cps x.cps.size (k + pre.length) first must marks seen)
            let item ← holding [found] (call (.ref lam) [found])
            if (item != Value.none) = true then do
              updateSeq P fun x => x.push item
              again (.builtin "re.Pattern.sub.loop" ⟨[.ref 69, .str x tt, .ref lam, .int 1 0, .int 0 0, .int (↑n + 1) 0, .int ↑(k + pre.length + 2) 0, .int ↑(k + pre.length + 2) 0, .bool false, .ref P, .bool false], []⟩)
            else again (.builtin "re.Pattern.sub.loop" ⟨[.ref 69, .str x tt, .ref lam, .int 1 0, .int 0 0, .int (↑n + 1) 0, .int ↑(k + pre.length + 2) 0, .int ↑(k + pre.length + 2) 0, .bool false, .ref P, .bool false], []⟩))
          (fun fin s' => match fin with | .done f => R (.ok f) s' | .again c' => c'.quiet = true ∧ codeAny (model prog w) A c' R s') (fun e s' => R (.error e) s') s1 := by
        intro pcs1 ys1 ep1 s1 he F1 N1 hs1 hc1 hl1
        refine wpAny_bind (newMatch hm F1 N1 ?_)
        intro a b h2 F2 N2 l1 l2
        refine wpAny_bind (wpAny_holding ?_)
        refine hlam a b _ _ _ _ _ F2 N2 (fun q hq => .tail _ (.tail _ (.tail _ hq))) (.head _) (.tail _ (.head _)) ?_
        intro t3 h3 tk3 F3 N3
        rw [hsg]
        rw [if_pos (by rfl)]
        refine wpAny_bind (updSeq (P := P) (its := pcs1.toArray) (n := ep1) F3 (fun q hq => N3 q (.tail _ (.tail _ hq))) (fun q hq => Nat.ne_of_lt (hP q hq)) (by simp [hs1.length]; omega) ?_)
        intro h4 F4 N4
        refine wpAny_pure ⟨plainId_quiet (by decide +kernel) _, ?_⟩
        have hle2 := congrArg List.length e
        simp only [List.length_append, List.length_cons] at hle2
        refine ih r (k + pre.length + 2) (n + 1) (pcs1 ++ [.str ⟨#[d]⟩ t3]) (ys1 ++ [⟨#[d]⟩]) (ep1 + 1) _ (by omega) hA3 F4 (by simpa using N4) (strs_push hs1) ?_ ?_ ?_
        · rw [cat_append, hc1]
          simp [cat, plain] at hc ⊢
          omega
        · simp; omega
        · intro t h' tk' F' N'
          have hr := hret t h' tk' F' N'
          rw [he] at hr
          have ee : cat (ys1 ++ [(⟨#[d]⟩ : Str)]) ++ plain r = cat ys ++ plain us := by
            rw [cat_append, hc1, e]
            simp [cat, plain]
          rw [ee]
          exact hr
      split
      · unfold reSlice
        rw [if_pos (by decide)]
        refine wpAny_bind (wpAny_mkStr ?_ ?_)
        · refine wpAny_bind (updSeq (s := { s with toks := s.toks + 1 }) F N (fun q hq => Nat.ne_of_lt (hP q hq)) (by simp [hs.length]; omega) ?_)
          intro h1 F1 N1
          exact go (pcs ++ [.str ⟨x.cps.extract k (k + pre.length)⟩ s.toks]) (ys ++ [⟨x.cps.extract k (k + pre.length)⟩]) (ep + 1) { s with heap := h1, toks := s.toks + 1 } (fun _ _ => rfl) F1
            (by simpa using N1) (strs_push hs) (by rw [cat_append, cat_one]; exact congrArg (cat ys ++ ·) hcut) (by simp)
        · simp only [PySem.Str.length, Array.size_extract]
          rw [sizeLine_eq]
          omega
      · rename_i hk
        have hp0 : pre = [] := List.eq_nil_of_length_eq_zero (by omega)
        exact go pcs ys ep s (fun _ _ => rfl) F N hs (by rw [hp0]; simp [plain]) (by omega)
end
end

theorem words_re6_1 : True := by
  k_with_none
  w_top off
  k_with "MINE ar" => (with_reducible first | assumption | decide | ((show @LT.lt Nat _ _ _); first | exact ar_n1 (by assumption) | exact ar_n2 (by assumption) | exact ar_n6 (by assumption) | exact ar_n12 (by assumption) | exact ar_n13 (by assumption) | exact ar_k1 (by assumption) | exact ar_k2 (by assumption) | exact ar_k3 (by assumption) | exact ar_k4 (by assumption) | exact ar_k8 (by assumption) | exact ar_m1 (by assumption) | exact ar_m2 (by assumption) | exact ar_m3 (by assumption) | exact ar_m4 (by assumption) | exact ar_m5 (by assumption) | exact ar_e4 (by assumption) | exact ar_e5 (by assumption) | exact ar_r1 (by assumption) | exact Nat.lt_succ_self _ | exact ar_r2 (by assumption) (by decide) | exact ar_r3 (by assumption) (by decide) | exact ar_n7 (by assumption) (by assumption) | exact ar_n8 (by assumption) (by assumption) | exact ar_n16 (by assumption) (by assumption) | exact ar_n20 (by assumption) (by assumption) | exact ar_n21 (by assumption) (by assumption) | exact ar_n23 (by assumption) (by assumption) | exact ar_n24 (by assumption) (by assumption) | exact ar_e17 (by assumption) (by assumption) | exact ar_e19 (by assumption) (by assumption) | exact ar_n14 (by assumption) (by assumption) (by assumption) | exact ar_n26 (by assumption) (by assumption) (by assumption) | exact ar_n27 (by assumption) (by assumption) (by assumption) | exact ar_n15 (by assumption) (by assumption) (by assumption) (by assumption) | exact ar_n22 (by assumption) (by assumption) (by assumption) (by assumption)) | ((show @LE.le Nat _ _ _); first | exact Nat.le_refl _ | exact Nat.le_add_right _ _ | exact ar_n3 (by assumption) | exact ar_n4 (by assumption) | exact ar_n5 (by assumption) | exact ar_k7 (by assumption) | exact ar_k10 (by assumption) | exact ar_k13 (by assumption) | exact ar_e1 (by assumption) | exact ar_e2 (by assumption) | exact ar_e3 (by assumption) | exact ar_e6 (by assumption) | exact ar_e7 (by assumption) | exact ar_e8 (by assumption) | exact ar_s1 (by assumption) | exact ar_w2 (by assumption) | exact ar_n25 (by assumption) | exact ar_n9 (by assumption) (by assumption) | exact ar_n17 (by assumption) (by assumption) | exact ar_n28 (by assumption) (by assumption) | exact ar_e9 (by assumption) (by assumption) | exact ar_e10 (by assumption) (by assumption) | exact ar_e18 (by assumption) (by assumption) | exact ar_s3 (by assumption) (by assumption) | exact ar_n10 (by assumption) (by assumption) (by assumption) | exact ar_n11 (by assumption) (by assumption) (by assumption)) | ((show @LT.lt Int _ _ _); first | exact ar_k9 (by assumption) | exact ar_n18 (by assumption) | exact ar_n19 (by assumption) (by assumption)) | ((show @LE.le Int _ _ _); first | exact Int.natCast_nonneg _) | ((show @Eq Nat _ _); first | exact ar_e11 (by assumption) | exact ar_e12 (by assumption) | exact ar_e13 (by assumption) | exact ar_e15 (by assumption) | exact ar_s2 (by assumption) | exact ar_s4 (by assumption) | exact ar_w6 (by assumption) (by assumption) | exact ar_nn (by assumption)) | ((show @Eq Int _ _); first | exact ar_i5 | exact ar_i6 | exact ar_i7 | exact ar_i8 (by assumption)) | ((show ¬ _); first | exact ar_k5 (by assumption) | exact ar_k6 (by assumption) | exact ar_k11 (by assumption) | exact ar_k12 (by assumption) | exact ar_k14 (by assumption) | exact ar_e14 (by assumption) | exact ar_e16 (by assumption) | exact ar_e20 (by assumption) | exact ar_q1 (by assumption) | exact ar_q2 (by assumption) | exact ar_q3 (by assumption) | exact ar_q4 (by assumption) | exact ar_q5 (by assumption) | exact ar_w7 (by assumption) | exact ar_w8 (by assumption) | exact ar_w14 (by assumption) | exact ar_w16 (by assumption) | exact ar_w18 (by assumption) | exact ar_w19 (by assumption) | exact ar_w20 (by assumption) | exact ar_o3 (by assumption) | exact ar_o4 (by assumption) | exact ar_d (by assumption) (by decide) | exact ar_l1 (by assumption) (by assumption) | exact ar_l2 (by assumption) (by assumption) | exact ar_l3 (by assumption) (by assumption) | exact ar_w17 (by assumption) (by assumption) | exact ar_lv (by assumption) (by assumption) (by assumption) | exact ar_nn2 (by assumption)) | ((show _ ∧ _); first | exact ar_w1 (by assumption) | exact ar_w10 (by assumption) | exact ar_w12 (by assumption) | exact ar_w13 (by assumption) | exact ar_o2 (by assumption) | exact ar_w4 (by assumption) (by assumption) | exact ar_i4 (by assumption) (by assumption)) | ((show _ ∨ _); first | exact ar_o1 (by assumption) | exact ar_w3 (by assumption) (by assumption) | exact ar_w5 (by assumption) (by assumption) | exact ar_w9 (by assumption) (by assumption) | exact ar_w11 (by assumption) (by assumption)) | ((show _ ↔ _); first | exact ar_z3 | exact ar_z4 | exact ar_z5) | ((show False); first | exact (ar_f1 (by assumption) (by assumption) (by assumption)).elim | exact (ar_f2 (by assumption) (by assumption) (by assumption)).elim | exact (ar_c1 (by assumption) (by assumption)).elim | exact (ar_c2 (by assumption) (by assumption)).elim | exact (ar_c3 (by assumption) (by assumption)).elim | exact (ar_c4 (by assumption) (by assumption)).elim | exact (ar_c5 (by assumption) (by assumption)).elim | exact (ar_c7 (by assumption) (by assumption)).elim | exact (ar_c8 (by assumption) (by assumption)).elim | exact (ar_c9 (by assumption) (by assumption)).elim | exact (ar_c10 (by assumption) (by assumption)).elim | exact (ar_c11 (by assumption) (by assumption)).elim | exact (ar_c12 (by assumption) (by assumption)).elim | exact (ar_c13 (by assumption) (by assumption)).elim | exact (ar_f3 (by assumption) (by assumption)).elim | exact (ar_f4 (by assumption) (by assumption)).elim | exact (ar_f5 (by assumption) (by assumption)).elim | exact (ar_f6 (by assumption) (by assumption)).elim | exact (ar_f7 (by assumption) (by assumption)).elim | exact (ar_f8 (by assumption) (by assumption)).elim | exact (ar_f9 (by assumption) (by assumption)).elim | exact (ar_f10 (by assumption) (by assumption)).elim) | ((show @Eq _ _ _); first | exact (ar_f1 (by assumption) (by assumption) (by assumption)).elim | exact (ar_f2 (by assumption) (by assumption) (by assumption)).elim | exact (ar_c1 (by assumption) (by assumption)).elim | exact (ar_c2 (by assumption) (by assumption)).elim | exact (ar_c3 (by assumption) (by assumption)).elim | exact (ar_c4 (by assumption) (by assumption)).elim | exact (ar_c5 (by assumption) (by assumption)).elim | exact (ar_c7 (by assumption) (by assumption)).elim | exact (ar_c8 (by assumption) (by assumption)).elim | exact (ar_c9 (by assumption) (by assumption)).elim | exact (ar_c10 (by assumption) (by assumption)).elim | exact (ar_c11 (by assumption) (by assumption)).elim | exact (ar_c12 (by assumption) (by assumption)).elim | exact (ar_c13 (by assumption) (by assumption)).elim | exact (ar_f3 (by assumption) (by assumption)).elim | exact (ar_f4 (by assumption) (by assumption)).elim | exact (ar_f5 (by assumption) (by assumption)).elim | exact (ar_f6 (by assumption) (by assumption)).elim | exact (ar_f7 (by assumption) (by assumption)).elim | exact (ar_f8 (by assumption) (by assumption)).elim | exact (ar_f9 (by assumption) (by assumption)).elim | exact (ar_f10 (by assumption) (by assumption)).elim) | (intro _; first | exact (ar_f1 (by assumption) (by assumption) (by assumption)).elim | exact (ar_f2 (by assumption) (by assumption) (by assumption)).elim | exact (ar_c1 (by assumption) (by assumption)).elim | exact (ar_c2 (by assumption) (by assumption)).elim | exact (ar_c3 (by assumption) (by assumption)).elim | exact (ar_c4 (by assumption) (by assumption)).elim | exact (ar_c5 (by assumption) (by assumption)).elim | exact (ar_c7 (by assumption) (by assumption)).elim | exact (ar_c8 (by assumption) (by assumption)).elim | exact (ar_c9 (by assumption) (by assumption)).elim | exact (ar_c10 (by assumption) (by assumption)).elim | exact (ar_c11 (by assumption) (by assumption)).elim | exact (ar_c12 (by assumption) (by assumption)).elim | exact (ar_c13 (by assumption) (by assumption)).elim | exact (ar_f3 (by assumption) (by assumption)).elim | exact (ar_f4 (by assumption) (by assumption)).elim | exact (ar_f5 (by assumption) (by assumption)).elim | exact (ar_f6 (by assumption) (by assumption)).elim | exact (ar_f7 (by assumption) (by assumption)).elim | exact (ar_f8 (by assumption) (by assumption)).elim | exact (ar_f9 (by assumption) (by assumption)).elim | exact (ar_f10 (by assumption) (by assumption)).elim) | exact ar_i1 (by assumption) | exact ar_i2 (by assumption) | exact ar_i3 (by assumption) (by decide))
  exact True.intro
section
open PySem.Builtin.Re
theorem named_sub (a b : Value) : reNamed "re.Pattern.sub" "sub" ["repl", "string", "count"] 2 [a, b] [] = pure [some a, some b, none] := by kernel_rfl
theorem fn_call : typeLookup (.type "function") "__call__" = pure (some (.builtin "function.__call__")) := by rw [typeLookup_type, builtinLookup_eq_fast]; kernel_rfl
theorem str_not_ba : isSubtype (.type "str") (.type "bytearray") = pure false := by rw [isSubtype_type]; kernel_rfl

section
variable {prog : Program} {w : World} {A : Around} {E : Value → Shared → Prop} {s : Shared}
theorem notHeld {id : String} {x : Str} {t : Tok} {Q : Unit → Shared → Prop} (h : Q () s) : wpAny (model prog w) A (reNotHeld id (.str x t)) Q E s := by
  unfold reNotHeld
  refine wpAny_bind ?_
  unfold isInstance
  refine wpAny_bind (wpAny_pure ?_)
  rw [str_not_ba]
  refine wpAny_pure ?_
  rw [if_neg (by decide)]
  exact wpAny_pure h

theorem sub_call {h₀ : Heap} {L lam : Addr} {m : Str → Option Value} {x : Str} {tt : Tok} {news : List (Addr × Obj)} {us : List U} {Q : Value → Shared → Prop} {fd : FuncData} {od : Option Addr} {sl : Array (Option Value)} (hx : Alpha x) (hsz : x.cps.size < 100)
    (hpat : ∀ h, Fr h₀ L h m → IsPat h 69 codeE 1) (hA : At x 0 us) (hlam : LamSpec prog w A h₀ L m x tt lam news) (hfn : (lam, (⟨.type "function", od, .func fd, sl⟩ : Obj)) ∈ news)
    (F : Fr h₀ L s.heap m) (N : News h₀ L s.heap news)
    (h : ∀ t h' tk', Fr h₀ L h' m → News h₀ L h' news → Q (.str ⟨(plain us).toArray⟩ t) { s with heap := h', toks := tk' }) :
    wpAny (model prog w) A (call (.builtin "re.Pattern.sub") [.ref 69, .ref lam, .str x tt]) Q E s := by
  have hT : s.TypeIs (.ref 69) "re.Pattern" := by
    obtain ⟨o, _, _, _, _, _, _, ho, hc, _⟩ := hpat _ F
    exact ⟨o, ho, hc⟩
  have hTf : s.TypeIs (.ref lam) "function" := ⟨_, N.get hfn, rfl⟩
  refine wpAny_call (codeAny_call_builtin slot_sub.plain entry_sub (slot_sub.check _ _ _ _ _ _ _ _ hT (args_sub _ _ _) ?_))
  unfold Builtin.«re.Pattern.sub» reSubstitute
  dsimp only
  rw [named_sub]
  refine wpAny_bind (wpAny_pure ?_)
  dsimp only
  refine wpAny_bind (wpAny_pure ?_)
  refine wpAny_bind (wpAny_specialOf hTf fn_call ?_)
  rw [if_pos (show ((some (Value.builtin "function.__call__")).isSome = true) from rfl)]
  refine wpAny_bind (wpAny_pure ?_)
  refine wpAny_bind (wpAny_pure ?_)
  refine wpAny_bind (wpAny_holding (wholeTarget (hpat _ F) ?_))
  dsimp only
  rw [if_pos (by decide)]
  refine wpAny_bind (notHeld ?_)
  refine wpAny_bind (newList_K F N ?_)
  intro P h1 F1 N1 l1
  refine wpAny_pure ⟨plainId_quiet (by decide +kernel) _, ?_⟩
  refine sub_loop hx hsz hpat l1 hlam (us.length + 1) us 0 0 [] [] 0 _ (by omega) hA F1 N1 .nil (by simp [cat]) (by simp) ?_
  intro t h' tk' F' N'
  exact h t h' tk' F' N'
end
end

theorem words_re7_1 : True := by
  k_with_none
  w_top off
  k_with "MINE ar" => (with_reducible first | assumption | decide | ((show @LT.lt Nat _ _ _); first | exact ar_n1 (by assumption) | exact ar_n2 (by assumption) | exact ar_n6 (by assumption) | exact ar_n12 (by assumption) | exact ar_n13 (by assumption) | exact ar_k1 (by assumption) | exact ar_k2 (by assumption) | exact ar_k3 (by assumption) | exact ar_k4 (by assumption) | exact ar_k8 (by assumption) | exact ar_m1 (by assumption) | exact ar_m2 (by assumption) | exact ar_m3 (by assumption) | exact ar_m4 (by assumption) | exact ar_m5 (by assumption) | exact ar_e4 (by assumption) | exact ar_e5 (by assumption) | exact ar_r1 (by assumption) | exact Nat.lt_succ_self _ | exact ar_r2 (by assumption) (by decide) | exact ar_r3 (by assumption) (by decide) | exact ar_n7 (by assumption) (by assumption) | exact ar_n8 (by assumption) (by assumption) | exact ar_n16 (by assumption) (by assumption) | exact ar_n20 (by assumption) (by assumption) | exact ar_n21 (by assumption) (by assumption) | exact ar_n23 (by assumption) (by assumption) | exact ar_n24 (by assumption) (by assumption) | exact ar_e17 (by assumption) (by assumption) | exact ar_e19 (by assumption) (by assumption) | exact ar_n14 (by assumption) (by assumption) (by assumption) | exact ar_n26 (by assumption) (by assumption) (by assumption) | exact ar_n27 (by assumption) (by assumption) (by assumption) | exact ar_n15 (by assumption) (by assumption) (by assumption) (by assumption) | exact ar_n22 (by assumption) (by assumption) (by assumption) (by assumption)) | ((show @LE.le Nat _ _ _); first | exact Nat.le_refl _ | exact Nat.le_add_right _ _ | exact ar_n3 (by assumption) | exact ar_n4 (by assumption) | exact ar_n5 (by assumption) | exact ar_k7 (by assumption) | exact ar_k10 (by assumption) | exact ar_k13 (by assumption) | exact ar_e1 (by assumption) | exact ar_e2 (by assumption) | exact ar_e3 (by assumption) | exact ar_e6 (by assumption) | exact ar_e7 (by assumption) | exact ar_e8 (by assumption) | exact ar_s1 (by assumption) | exact ar_w2 (by assumption) | exact ar_n25 (by assumption) | exact ar_n9 (by assumption) (by assumption) | exact ar_n17 (by assumption) (by assumption) | exact ar_n28 (by assumption) (by assumption) | exact ar_e9 (by assumption) (by assumption) | exact ar_e10 (by assumption) (by assumption) | exact ar_e18 (by assumption) (by assumption) | exact ar_s3 (by assumption) (by assumption) | exact ar_n10 (by assumption) (by assumption) (by assumption) | exact ar_n11 (by assumption) (by assumption) (by assumption)) | ((show @LT.lt Int _ _ _); first | exact ar_k9 (by assumption) | exact ar_n18 (by assumption) | exact ar_n19 (by assumption) (by assumption)) | ((show @LE.le Int _ _ _); first | exact Int.natCast_nonneg _) | ((show @Eq Nat _ _); first | exact ar_e11 (by assumption) | exact ar_e12 (by assumption) | exact ar_e13 (by assumption) | exact ar_e15 (by assumption) | exact ar_s2 (by assumption) | exact ar_s4 (by assumption) | exact ar_w6 (by assumption) (by assumption) | exact ar_nn (by assumption)) | ((show @Eq Int _ _); first | exact ar_i5 | exact ar_i6 | exact ar_i7 | exact ar_i8 (by assumption)) | ((show ¬ _); first | exact ar_k5 (by assumption) | exact ar_k6 (by assumption) | exact ar_k11 (by assumption) | exact ar_k12 (by assumption) | exact ar_k14 (by assumption) | exact ar_e14 (by assumption) | exact ar_e16 (by assumption) | exact ar_e20 (by assumption) | exact ar_q1 (by assumption) | exact ar_q2 (by assumption) | exact ar_q3 (by assumption) | exact ar_q4 (by assumption) | exact ar_q5 (by assumption) | exact ar_w7 (by assumption) | exact ar_w8 (by assumption) | exact ar_w14 (by assumption) | exact ar_w16 (by assumption) | exact ar_w18 (by assumption) | exact ar_w19 (by assumption) | exact ar_w20 (by assumption) | exact ar_o3 (by assumption) | exact ar_o4 (by assumption) | exact ar_d (by assumption) (by decide) | exact ar_l1 (by assumption) (by assumption) | exact ar_l2 (by assumption) (by assumption) | exact ar_l3 (by assumption) (by assumption) | exact ar_w17 (by assumption) (by assumption) | exact ar_lv (by assumption) (by assumption) (by assumption) | exact ar_nn2 (by assumption)) | ((show _ ∧ _); first | exact ar_w1 (by assumption) | exact ar_w10 (by assumption) | exact ar_w12 (by assumption) | exact ar_w13 (by assumption) | exact ar_o2 (by assumption) | exact ar_w4 (by assumption) (by assumption) | exact ar_i4 (by assumption) (by assumption)) | ((show _ ∨ _); first | exact ar_o1 (by assumption) | exact ar_w3 (by assumption) (by assumption) | exact ar_w5 (by assumption) (by assumption) | exact ar_w9 (by assumption) (by assumption) | exact ar_w11 (by assumption) (by assumption)) | ((show _ ↔ _); first | exact ar_z3 | exact ar_z4 | exact ar_z5) | ((show False); first | exact (ar_f1 (by assumption) (by assumption) (by assumption)).elim | exact (ar_f2 (by assumption) (by assumption) (by assumption)).elim | exact (ar_c1 (by assumption) (by assumption)).elim | exact (ar_c2 (by assumption) (by assumption)).elim | exact (ar_c3 (by assumption) (by assumption)).elim | exact (ar_c4 (by assumption) (by assumption)).elim | exact (ar_c5 (by assumption) (by assumption)).elim | exact (ar_c7 (by assumption) (by assumption)).elim | exact (ar_c8 (by assumption) (by assumption)).elim | exact (ar_c9 (by assumption) (by assumption)).elim | exact (ar_c10 (by assumption) (by assumption)).elim | exact (ar_c11 (by assumption) (by assumption)).elim | exact (ar_c12 (by assumption) (by assumption)).elim | exact (ar_c13 (by assumption) (by assumption)).elim | exact (ar_f3 (by assumption) (by assumption)).elim | exact (ar_f4 (by assumption) (by assumption)).elim | exact (ar_f5 (by assumption) (by assumption)).elim | exact (ar_f6 (by assumption) (by assumption)).elim | exact (ar_f7 (by assumption) (by assumption)).elim | exact (ar_f8 (by assumption) (by assumption)).elim | exact (ar_f9 (by assumption) (by assumption)).elim | exact (ar_f10 (by assumption) (by assumption)).elim) | ((show @Eq _ _ _); first | exact (ar_f1 (by assumption) (by assumption) (by assumption)).elim | exact (ar_f2 (by assumption) (by assumption) (by assumption)).elim | exact (ar_c1 (by assumption) (by assumption)).elim | exact (ar_c2 (by assumption) (by assumption)).elim | exact (ar_c3 (by assumption) (by assumption)).elim | exact (ar_c4 (by assumption) (by assumption)).elim | exact (ar_c5 (by assumption) (by assumption)).elim | exact (ar_c7 (by assumption) (by assumption)).elim | exact (ar_c8 (by assumption) (by assumption)).elim | exact (ar_c9 (by assumption) (by assumption)).elim | exact (ar_c10 (by assumption) (by assumption)).elim | exact (ar_c11 (by assumption) (by assumption)).elim | exact (ar_c12 (by assumption) (by assumption)).elim | exact (ar_c13 (by assumption) (by assumption)).elim | exact (ar_f3 (by assumption) (by assumption)).elim | exact (ar_f4 (by assumption) (by assumption)).elim | exact (ar_f5 (by assumption) (by assumption)).elim | exact (ar_f6 (by assumption) (by assumption)).elim | exact (ar_f7 (by assumption) (by assumption)).elim | exact (ar_f8 (by assumption) (by assumption)).elim | exact (ar_f9 (by assumption) (by assumption)).elim | exact (ar_f10 (by assumption) (by assumption)).elim) | (intro _; first | exact (ar_f1 (by assumption) (by assumption) (by assumption)).elim | exact (ar_f2 (by assumption) (by assumption) (by assumption)).elim | exact (ar_c1 (by assumption) (by assumption)).elim | exact (ar_c2 (by assumption) (by assumption)).elim | exact (ar_c3 (by assumption) (by assumption)).elim | exact (ar_c4 (by assumption) (by assumption)).elim | exact (ar_c5 (by assumption) (by assumption)).elim | exact (ar_c7 (by assumption) (by assumption)).elim | exact (ar_c8 (by assumption) (by assumption)).elim | exact (ar_c9 (by assumption) (by assumption)).elim | exact (ar_c10 (by assumption) (by assumption)).elim | exact (ar_c11 (by assumption) (by assumption)).elim | exact (ar_c12 (by assumption) (by assumption)).elim | exact (ar_c13 (by assumption) (by assumption)).elim | exact (ar_f3 (by assumption) (by assumption)).elim | exact (ar_f4 (by assumption) (by assumption)).elim | exact (ar_f5 (by assumption) (by assumption)).elim | exact (ar_f6 (by assumption) (by assumption)).elim | exact (ar_f7 (by assumption) (by assumption)).elim | exact (ar_f8 (by assumption) (by assumption)).elim | exact (ar_f9 (by assumption) (by assumption)).elim | exact (ar_f10 (by assumption) (by assumption)).elim) | exact ar_i1 (by assumption) | exact ar_i2 (by assumption) | exact ar_i3 (by assumption) (by decide))
  exact True.intro
section
open PySem.Builtin.Re PySem.Sre

def codeB : Array Nat := #[14, 8, 1, 2, 4294967295, 1, 1, 10, 0, 16, 10, 24, 11, 0, 4294967295, 13, 6, 16, 32, 16, 9, 0, 1, 16, 10, 1]

theorem acceptsB {c : Nat} {seen : Sre.Seen} : ∃ yes seen', accepts codeB 15 c seen = .ok (yes, seen') := by
  by_cases h1 : c = 32
  · subst h1
    exact ⟨_, _, rfl⟩
  · have hb1 : (c == 32) = false := by simpa using h1
    by_cases h2 : c = 9
    · subst h2
      exact ⟨_, _, rfl⟩
    · have hb2 : (c == 9) = false := by simpa using h2
      exact ⟨false, _, by simp [accepts, codeB, ops, inSet, hb1, hb2]; rfl⟩
theorem runB {text : Array Nat} : ∀ (n p f : Nat) (seen : Sre.Seen), ∃ k seen', Sre.run codeB text 15 n p f seen = .ok (k, seen') ∧ f ≤ k ∧ k ≤ f + n
  | 0, p, f, seen => ⟨f, seen, rfl, Nat.le_refl _, Nat.le_refl _⟩
  | n + 1, p, f, seen => by
    obtain ⟨yes, seen1, e⟩ := acceptsB (c := text.getD p 0) (seen := seen)
    cases yes with
    | false => exact ⟨f, seen1, by rw [Sre.run, e]; rfl, Nat.le_refl _, by omega⟩
    | true =>
      obtain ⟨k, seen2, e2, h1, h2⟩ := runB (text := text) n (p + 1) (f + 1) seen1
      refine ⟨k, seen2, ?_, by omega, by omega⟩
      rw [Sre.run, e]
      exact e2

def stB (text : Array Nat) (lim s b count : Nat) (first must whole : Bool) (marks : Array (Option Nat)) (seen : Sre.Seen) : M :=
  { code := codeB, text, lim, start := s, wholeText := whole, mustAdvance := must, pc := 23, pos := b + count, handed := b + count, outermost := first, marks,
    frames := [{ wait := .giveBack, pc := 11, pos := b + count, outermost := first, count := count }], weight := 1, seen }

theorem stB_fail {text : Array Nat} {lim s b : Nat} {first must whole : Bool} {marks : Array (Option Nat)} (hn : ∀ q, b ≤ q → q < lim → text[q]? ≠ some 10 ∧ q < text.size) : ∀ (count : Nat) (seen : Sre.Seen),
    ∃ N, N ≤ 2 * count + 3 ∧ ((stB text lim s b count first must whole marks seen).runFor N).outcome = some .failed := by
  intro count
  induction count with
  | zero =>
    intro seen
    refine ⟨3, by omega, ?_⟩
    by_cases h : b ≥ lim
    · simp [stB, M.runFor, M.step, M.exec, M.word, codeB, ops, h, M.say, M.resume, M.putBack]
    · obtain ⟨h1, h2⟩ := hn b (Nat.le_refl _) (by omega)
      have h3 : text[b]? = some text[b] := Array.getElem?_eq_getElem h2
      have h4 : (text[b] == 10) = false := by rw [h3] at h1; simpa using h1
      simp [stB, M.runFor, M.step, M.exec, M.word, codeB, ops, h, M.say, M.resume, M.putBack, accepts, h3, h4]
  | succ count ih =>
    intro seen
    have step : ∃ seen', (stB text lim s b (count + 1) first must whole marks seen).runFor 2 = stB text lim s b count first must whole marks seen' := by
      by_cases h : b + (count + 1) ≥ lim
      · refine ⟨seen.add 16, ?_⟩
        simp [stB, M.runFor, M.step, M.exec, M.word, codeB, ops, h, M.say, M.resume, M.putBack, M.afterRun, M.attempt, M.frame]
      · obtain ⟨h1, h2⟩ := hn (b + (count + 1)) (by omega) (by omega)
        have h3 : text[b + (count + 1)]? = some text[b + (count + 1)] := Array.getElem?_eq_getElem h2
        have h4 : (text[b + (count + 1)] == 10) = false := by rw [h3] at h1; simpa using h1
        refine ⟨seen.add 16, ?_⟩
        simp [stB, M.runFor, M.step, M.exec, M.word, codeB, ops, h, M.say, M.resume, M.putBack, accepts, h3, h4, M.afterRun, M.attempt, M.frame]
    obtain ⟨seen', e⟩ := step
    obtain ⟨N, hN, h⟩ := ih seen'
    exact ⟨2 + N, by omega, by rw [runFor_add, e]; exact h⟩

theorem forMatch_B (text : Array Nat) (k lim : Nat) :
    ∃ seen, forMatch codeB text 0 k lim false false = (if ((2 != 0 && decide (k ≤ lim) && decide (lim - k < 2)) = true) then
      ({ code := codeB, text, lim, start := k, pc := 9, pos := k, handed := k, marks := #[], seen } : M).say false else { code := codeB, text, lim, start := k, pc := 9, pos := k, handed := k, marks := #[], seen }) := ⟨_, rfl⟩

theorem blank_none {text : Array Nat} {k : Nat} (hk : k < text.size) (h10 : text[k]? = some 10) (hn : ∀ q, k < q → q < text.size → text[q]? ≠ some 10) (hs : text.size < 1000) :
    ∃ N, N ≤ 5000 ∧ ((forMatch codeB text 0 k text.size false false).runFor N).outcome = some .failed := by
  obtain ⟨seen, e⟩ := forMatch_B text k text.size
  rw [e]
  split
  · exact ⟨1, by omega, rfl⟩
  · obtain ⟨n, seen1, e1, h1, h2⟩ := runB (text := text) (min 4294967295 (text.size - (k + 1))) (k + 1) 0 (((seen.add 16).add 24).add 13)
    have step : ∃ seen', ({ code := codeB, text, lim := text.size, start := k, pc := 9, pos := k, handed := k, marks := #[], seen } : M).runFor 2 = stB text text.size k (k + 1) n true false false #[] seen' := by
      refine ⟨seen1, ?_⟩
      have h' : ¬ k ≥ text.size := by omega
      have h3 : ¬ ((0 : Int) > (text.size : Int) - ((k + 1 : Nat) : Int)) := by omega
      have h4 : ((text.size : Int) - ((k + 1 : Nat) : Int)).toNat = text.size - (k + 1) := by omega
      have h5 : ((text.size : Int) - ((k : Int) + 1)).toNat = text.size - (k + 1) := by omega
      have h6 : ¬ ((text.size : Int) - ((k : Int) + 1) < 0) := by omega
      simp only [codeB] at e1
      simp [stB, M.runFor, M.step, M.exec, M.word, codeB, ops, h', M.say, M.resume, M.putBack, accepts, h10, M.afterRun, M.attempt, M.frame, M.keep, itemWidth, h3, h4, h5, h6, e1]
    obtain ⟨seen', e2⟩ := step
    obtain ⟨N, hN, h⟩ := stB_fail (text := text) (lim := text.size) (s := k) (b := k + 1) (first := true) (must := false) (whole := false) (marks := #[]) (fun q h1 h2 => ⟨hn q (by omega) h2, h2⟩) n seen'
    exact ⟨2 + N, by omega, by rw [runFor_add, e2]; exact h⟩
end

theorem words_re8_1 : True := by
  k_with_none
  w_top off
  k_with "MINE ar" => (with_reducible first | assumption | decide | ((show @LT.lt Nat _ _ _); first | exact ar_n1 (by assumption) | exact ar_n2 (by assumption) | exact ar_n6 (by assumption) | exact ar_n12 (by assumption) | exact ar_n13 (by assumption) | exact ar_k1 (by assumption) | exact ar_k2 (by assumption) | exact ar_k3 (by assumption) | exact ar_k4 (by assumption) | exact ar_k8 (by assumption) | exact ar_m1 (by assumption) | exact ar_m2 (by assumption) | exact ar_m3 (by assumption) | exact ar_m4 (by assumption) | exact ar_m5 (by assumption) | exact ar_e4 (by assumption) | exact ar_e5 (by assumption) | exact ar_r1 (by assumption) | exact Nat.lt_succ_self _ | exact ar_r2 (by assumption) (by decide) | exact ar_r3 (by assumption) (by decide) | exact ar_n7 (by assumption) (by assumption) | exact ar_n8 (by assumption) (by assumption) | exact ar_n16 (by assumption) (by assumption) | exact ar_n20 (by assumption) (by assumption) | exact ar_n21 (by assumption) (by assumption) | exact ar_n23 (by assumption) (by assumption) | exact ar_n24 (by assumption) (by assumption) | exact ar_e17 (by assumption) (by assumption) | exact ar_e19 (by assumption) (by assumption) | exact ar_n14 (by assumption) (by assumption) (by assumption) | exact ar_n26 (by assumption) (by assumption) (by assumption) | exact ar_n27 (by assumption) (by assumption) (by assumption) | exact ar_n15 (by assumption) (by assumption) (by assumption) (by assumption) | exact ar_n22 (by assumption) (by assumption) (by assumption) (by assumption)) | ((show @LE.le Nat _ _ _); first | exact Nat.le_refl _ | exact Nat.le_add_right _ _ | exact ar_n3 (by assumption) | exact ar_n4 (by assumption) | exact ar_n5 (by assumption) | exact ar_k7 (by assumption) | exact ar_k10 (by assumption) | exact ar_k13 (by assumption) | exact ar_e1 (by assumption) | exact ar_e2 (by assumption) | exact ar_e3 (by assumption) | exact ar_e6 (by assumption) | exact ar_e7 (by assumption) | exact ar_e8 (by assumption) | exact ar_s1 (by assumption) | exact ar_w2 (by assumption) | exact ar_n25 (by assumption) | exact ar_n9 (by assumption) (by assumption) | exact ar_n17 (by assumption) (by assumption) | exact ar_n28 (by assumption) (by assumption) | exact ar_e9 (by assumption) (by assumption) | exact ar_e10 (by assumption) (by assumption) | exact ar_e18 (by assumption) (by assumption) | exact ar_s3 (by assumption) (by assumption) | exact ar_n10 (by assumption) (by assumption) (by assumption) | exact ar_n11 (by assumption) (by assumption) (by assumption)) | ((show @LT.lt Int _ _ _); first | exact ar_k9 (by assumption) | exact ar_n18 (by assumption) | exact ar_n19 (by assumption) (by assumption)) | ((show @LE.le Int _ _ _); first | exact Int.natCast_nonneg _) | ((show @Eq Nat _ _); first | exact ar_e11 (by assumption) | exact ar_e12 (by assumption) | exact ar_e13 (by assumption) | exact ar_e15 (by assumption) | exact ar_s2 (by assumption) | exact ar_s4 (by assumption) | exact ar_w6 (by assumption) (by assumption) | exact ar_nn (by assumption)) | ((show @Eq Int _ _); first | exact ar_i5 | exact ar_i6 | exact ar_i7 | exact ar_i8 (by assumption)) | ((show ¬ _); first | exact ar_k5 (by assumption) | exact ar_k6 (by assumption) | exact ar_k11 (by assumption) | exact ar_k12 (by assumption) | exact ar_k14 (by assumption) | exact ar_e14 (by assumption) | exact ar_e16 (by assumption) | exact ar_e20 (by assumption) | exact ar_q1 (by assumption) | exact ar_q2 (by assumption) | exact ar_q3 (by assumption) | exact ar_q4 (by assumption) | exact ar_q5 (by assumption) | exact ar_w7 (by assumption) | exact ar_w8 (by assumption) | exact ar_w14 (by assumption) | exact ar_w16 (by assumption) | exact ar_w18 (by assumption) | exact ar_w19 (by assumption) | exact ar_w20 (by assumption) | exact ar_o3 (by assumption) | exact ar_o4 (by assumption) | exact ar_d (by assumption) (by decide) | exact ar_l1 (by assumption) (by assumption) | exact ar_l2 (by assumption) (by assumption) | exact ar_l3 (by assumption) (by assumption) | exact ar_w17 (by assumption) (by assumption) | exact ar_lv (by assumption) (by assumption) (by assumption) | exact ar_nn2 (by assumption)) | ((show _ ∧ _); first | exact ar_w1 (by assumption) | exact ar_w10 (by assumption) | exact ar_w12 (by assumption) | exact ar_w13 (by assumption) | exact ar_o2 (by assumption) | exact ar_w4 (by assumption) (by assumption) | exact ar_i4 (by assumption) (by assumption)) | ((show _ ∨ _); first | exact ar_o1 (by assumption) | exact ar_w3 (by assumption) (by assumption) | exact ar_w5 (by assumption) (by assumption) | exact ar_w9 (by assumption) (by assumption) | exact ar_w11 (by assumption) (by assumption)) | ((show _ ↔ _); first | exact ar_z3 | exact ar_z4 | exact ar_z5) | ((show False); first | exact (ar_f1 (by assumption) (by assumption) (by assumption)).elim | exact (ar_f2 (by assumption) (by assumption) (by assumption)).elim | exact (ar_c1 (by assumption) (by assumption)).elim | exact (ar_c2 (by assumption) (by assumption)).elim | exact (ar_c3 (by assumption) (by assumption)).elim | exact (ar_c4 (by assumption) (by assumption)).elim | exact (ar_c5 (by assumption) (by assumption)).elim | exact (ar_c7 (by assumption) (by assumption)).elim | exact (ar_c8 (by assumption) (by assumption)).elim | exact (ar_c9 (by assumption) (by assumption)).elim | exact (ar_c10 (by assumption) (by assumption)).elim | exact (ar_c11 (by assumption) (by assumption)).elim | exact (ar_c12 (by assumption) (by assumption)).elim | exact (ar_c13 (by assumption) (by assumption)).elim | exact (ar_f3 (by assumption) (by assumption)).elim | exact (ar_f4 (by assumption) (by assumption)).elim | exact (ar_f5 (by assumption) (by assumption)).elim | exact (ar_f6 (by assumption) (by assumption)).elim | exact (ar_f7 (by assumption) (by assumption)).elim | exact (ar_f8 (by assumption) (by assumption)).elim | exact (ar_f9 (by assumption) (by assumption)).elim | exact (ar_f10 (by assumption) (by assumption)).elim) | ((show @Eq _ _ _); first | exact (ar_f1 (by assumption) (by assumption) (by assumption)).elim | exact (ar_f2 (by assumption) (by assumption) (by assumption)).elim | exact (ar_c1 (by assumption) (by assumption)).elim | exact (ar_c2 (by assumption) (by assumption)).elim | exact (ar_c3 (by assumption) (by assumption)).elim | exact (ar_c4 (by assumption) (by assumption)).elim | exact (ar_c5 (by assumption) (by assumption)).elim | exact (ar_c7 (by assumption) (by assumption)).elim | exact (ar_c8 (by assumption) (by assumption)).elim | exact (ar_c9 (by assumption) (by assumption)).elim | exact (ar_c10 (by assumption) (by assumption)).elim | exact (ar_c11 (by assumption) (by assumption)).elim | exact (ar_c12 (by assumption) (by assumption)).elim | exact (ar_c13 (by assumption) (by assumption)).elim | exact (ar_f3 (by assumption) (by assumption)).elim | exact (ar_f4 (by assumption) (by assumption)).elim | exact (ar_f5 (by assumption) (by assumption)).elim | exact (ar_f6 (by assumption) (by assumption)).elim | exact (ar_f7 (by assumption) (by assumption)).elim | exact (ar_f8 (by assumption) (by assumption)).elim | exact (ar_f9 (by assumption) (by assumption)).elim | exact (ar_f10 (by assumption) (by assumption)).elim) | (intro _; first | exact (ar_f1 (by assumption) (by assumption) (by assumption)).elim | exact (ar_f2 (by assumption) (by assumption) (by assumption)).elim | exact (ar_c1 (by assumption) (by assumption)).elim | exact (ar_c2 (by assumption) (by assumption)).elim | exact (ar_c3 (by assumption) (by assumption)).elim | exact (ar_c4 (by assumption) (by assumption)).elim | exact (ar_c5 (by assumption) (by assumption)).elim | exact (ar_c7 (by assumption) (by assumption)).elim | exact (ar_c8 (by assumption) (by assumption)).elim | exact (ar_c9 (by assumption) (by assumption)).elim | exact (ar_c10 (by assumption) (by assumption)).elim | exact (ar_c11 (by assumption) (by assumption)).elim | exact (ar_c12 (by assumption) (by assumption)).elim | exact (ar_c13 (by assumption) (by assumption)).elim | exact (ar_f3 (by assumption) (by assumption)).elim | exact (ar_f4 (by assumption) (by assumption)).elim | exact (ar_f5 (by assumption) (by assumption)).elim | exact (ar_f6 (by assumption) (by assumption)).elim | exact (ar_f7 (by assumption) (by assumption)).elim | exact (ar_f8 (by assumption) (by assumption)).elim | exact (ar_f9 (by assumption) (by assumption)).elim | exact (ar_f10 (by assumption) (by assumption)).elim) | exact ar_i1 (by assumption) | exact ar_i2 (by assumption) | exact ar_i3 (by assumption) (by decide))
  exact True.intro
section
open PySem.Builtin.Re
theorem named_match (a b c : Value) : reNamed "re.Pattern.match" "match" ["string", "pos", "endpos"] 1 [a, b, c] [] = pure [some a, some b, some c] := by kernel_rfl
theorem args_match (a b c d : Value) : argsOk "re.Pattern.match" ⟨[a, b, c, d], []⟩ := by
  unfold argsOk
  kernel_rfl
variable {prog : Program} {w : World} {A : Around} {E : Value → Shared → Prop} {s : Shared}
theorem ssize {k : Nat} {u : Tok} {Q : Int → Shared → Prop} (hk : k < 100000) (h : Q k s) : wpAny (model prog w) A (reSsize (.int k u)) Q E s := by
  unfold reSsize
  have hI : wpAny (model prog w) A (asIndex (.int k u)) (fun i s' => i = (k : Int) ∧ s' = s) E s := by
    unfold asIndex
    exact wpAny_bind (wpAny_pure (wpAny_pure ⟨rfl, rfl⟩))
  refine wpAny_bind (wpAny_mono hI (fun i s' hh => ?_) fun _ _ x => x)
  obtain ⟨rfl, rfl⟩ := hh
  rw [if_neg (by simp; omega)]
  exact wpAny_pure h

theorem match_none {x : Str} {t u v : Tok} {k : Nat} {Q : Value → Shared → Prop} (hp : IsPat s.heap 74 codeB 0) (hk : k < x.cps.size) (h10 : x.cps[k] = 10) (hn : ∀ q, k < q → q < x.cps.size → x.cps[q]? ≠ some 10) (hs : x.cps.size < 1000)
    (h : Q .none s) : wpAny (model prog w) A (call (.builtin "re.Pattern.match") [.ref 74, .str x t, .int k u, .int (x.cps.size : Nat) v]) Q E s := by
  have hT : s.TypeIs (.ref 74) "re.Pattern" := by
    obtain ⟨o, _, _, _, _, _, _, ho, hc, _⟩ := hp
    exact ⟨o, ho, hc⟩
  refine wpAny_call_entry slot_match hT entry_match ?_ (args_match _ _ _ _)
  unfold Builtin.«re.Pattern.match» reTarget
  dsimp only
  rw [named_match]
  obtain ⟨o, v, f, c, oc, vs, n, ho, _, _, hd, hoc, hdc, hco⟩ := hp
  refine wpAny_bind (wpAny_bind (wpAny_pure ?_))
  dsimp only
  refine wpAny_bind (ssize (by omega) ?_)
  refine wpAny_bind (ssize (by omega) ?_)
  refine wpAny_bind (wpAny_fieldsOf ho hd ?_)
  refine wpAny_bind (textOf_str ?_)
  dsimp only
  refine wpAny_bind (noColl ?_)
  unfold reRawItems
  refine wpAny_bind (wpAny_bind (wpAny_seqItems hoc hdc (wpAny_pure ?_)))
  refine wpAny_pure ?_
  dsimp only [Option.getD]
  rw [hco]
  unfold reAnswer
  obtain ⟨N, hN, hN2⟩ := blank_none hk (by rw [get_of_lt hk, h10]) hn hs
  have e1 : min ((k : Int).toNat) x.cps.size = k := by omega
  have e2 : min (((x.cps.size : Nat) : Int).toNat) x.cps.size = x.cps.size := by omega
  have e3 : reRawNat (#[v, f, Value.int ((0 : Nat) : Int) 0, Value.none, Value.none, Value.ref c, Value.int 0 0].getD 2 Value.none) = 0 := rfl
  rw [e1, e2, e3]
  refine wpAny_bind (runToEnd (N := N) (by have : (4 : Nat) * 2 ^ 64 > 100000 := by decide
                                           omega) (.inr ⟨hN2, ?_⟩))
  exact wpAny_pure ⟨_, rfl, h⟩
end

theorem words_re9_1 : True := by
  k_with_none
  w_top off
  k_with "MINE ar" => (with_reducible first | assumption | decide | ((show @LT.lt Nat _ _ _); first | exact ar_n1 (by assumption) | exact ar_n2 (by assumption) | exact ar_n6 (by assumption) | exact ar_n12 (by assumption) | exact ar_n13 (by assumption) | exact ar_k1 (by assumption) | exact ar_k2 (by assumption) | exact ar_k3 (by assumption) | exact ar_k4 (by assumption) | exact ar_k8 (by assumption) | exact ar_m1 (by assumption) | exact ar_m2 (by assumption) | exact ar_m3 (by assumption) | exact ar_m4 (by assumption) | exact ar_m5 (by assumption) | exact ar_e4 (by assumption) | exact ar_e5 (by assumption) | exact ar_r1 (by assumption) | exact Nat.lt_succ_self _ | exact ar_r2 (by assumption) (by decide) | exact ar_r3 (by assumption) (by decide) | exact ar_n7 (by assumption) (by assumption) | exact ar_n8 (by assumption) (by assumption) | exact ar_n16 (by assumption) (by assumption) | exact ar_n20 (by assumption) (by assumption) | exact ar_n21 (by assumption) (by assumption) | exact ar_n23 (by assumption) (by assumption) | exact ar_n24 (by assumption) (by assumption) | exact ar_e17 (by assumption) (by assumption) | exact ar_e19 (by assumption) (by assumption) | exact ar_n14 (by assumption) (by assumption) (by assumption) | exact ar_n26 (by assumption) (by assumption) (by assumption) | exact ar_n27 (by assumption) (by assumption) (by assumption) | exact ar_n15 (by assumption) (by assumption) (by assumption) (by assumption) | exact ar_n22 (by assumption) (by assumption) (by assumption) (by assumption)) | ((show @LE.le Nat _ _ _); first | exact Nat.le_refl _ | exact Nat.le_add_right _ _ | exact ar_n3 (by assumption) | exact ar_n4 (by assumption) | exact ar_n5 (by assumption) | exact ar_k7 (by assumption) | exact ar_k10 (by assumption) | exact ar_k13 (by assumption) | exact ar_e1 (by assumption) | exact ar_e2 (by assumption) | exact ar_e3 (by assumption) | exact ar_e6 (by assumption) | exact ar_e7 (by assumption) | exact ar_e8 (by assumption) | exact ar_s1 (by assumption) | exact ar_w2 (by assumption) | exact ar_n25 (by assumption) | exact ar_n9 (by assumption) (by assumption) | exact ar_n17 (by assumption) (by assumption) | exact ar_n28 (by assumption) (by assumption) | exact ar_e9 (by assumption) (by assumption) | exact ar_e10 (by assumption) (by assumption) | exact ar_e18 (by assumption) (by assumption) | exact ar_s3 (by assumption) (by assumption) | exact ar_n10 (by assumption) (by assumption) (by assumption) | exact ar_n11 (by assumption) (by assumption) (by assumption)) | ((show @LT.lt Int _ _ _); first | exact ar_k9 (by assumption) | exact ar_n18 (by assumption) | exact ar_n19 (by assumption) (by assumption)) | ((show @LE.le Int _ _ _); first | exact Int.natCast_nonneg _) | ((show @Eq Nat _ _); first | exact ar_e11 (by assumption) | exact ar_e12 (by assumption) | exact ar_e13 (by assumption) | exact ar_e15 (by assumption) | exact ar_s2 (by assumption) | exact ar_s4 (by assumption) | exact ar_w6 (by assumption) (by assumption) | exact ar_nn (by assumption)) | ((show @Eq Int _ _); first | exact ar_i5 | exact ar_i6 | exact ar_i7 | exact ar_i8 (by assumption)) | ((show ¬ _); first | exact ar_k5 (by assumption) | exact ar_k6 (by assumption) | exact ar_k11 (by assumption) | exact ar_k12 (by assumption) | exact ar_k14 (by assumption) | exact ar_e14 (by assumption) | exact ar_e16 (by assumption) | exact ar_e20 (by assumption) | exact ar_q1 (by assumption) | exact ar_q2 (by assumption) | exact ar_q3 (by assumption) | exact ar_q4 (by assumption) | exact ar_q5 (by assumption) | exact ar_w7 (by assumption) | exact ar_w8 (by assumption) | exact ar_w14 (by assumption) | exact ar_w16 (by assumption) | exact ar_w18 (by assumption) | exact ar_w19 (by assumption) | exact ar_w20 (by assumption) | exact ar_o3 (by assumption) | exact ar_o4 (by assumption) | exact ar_d (by assumption) (by decide) | exact ar_l1 (by assumption) (by assumption) | exact ar_l2 (by assumption) (by assumption) | exact ar_l3 (by assumption) (by assumption) | exact ar_w17 (by assumption) (by assumption) | exact ar_lv (by assumption) (by assumption) (by assumption) | exact ar_nn2 (by assumption)) | ((show _ ∧ _); first | exact ar_w1 (by assumption) | exact ar_w10 (by assumption) | exact ar_w12 (by assumption) | exact ar_w13 (by assumption) | exact ar_o2 (by assumption) | exact ar_w4 (by assumption) (by assumption) | exact ar_i4 (by assumption) (by assumption)) | ((show _ ∨ _); first | exact ar_o1 (by assumption) | exact ar_w3 (by assumption) (by assumption) | exact ar_w5 (by assumption) (by assumption) | exact ar_w9 (by assumption) (by assumption) | exact ar_w11 (by assumption) (by assumption)) | ((show _ ↔ _); first | exact ar_z3 | exact ar_z4 | exact ar_z5) | ((show False); first | exact (ar_f1 (by assumption) (by assumption) (by assumption)).elim | exact (ar_f2 (by assumption) (by assumption) (by assumption)).elim | exact (ar_c1 (by assumption) (by assumption)).elim | exact (ar_c2 (by assumption) (by assumption)).elim | exact (ar_c3 (by assumption) (by assumption)).elim | exact (ar_c4 (by assumption) (by assumption)).elim | exact (ar_c5 (by assumption) (by assumption)).elim | exact (ar_c7 (by assumption) (by assumption)).elim | exact (ar_c8 (by assumption) (by assumption)).elim | exact (ar_c9 (by assumption) (by assumption)).elim | exact (ar_c10 (by assumption) (by assumption)).elim | exact (ar_c11 (by assumption) (by assumption)).elim | exact (ar_c12 (by assumption) (by assumption)).elim | exact (ar_c13 (by assumption) (by assumption)).elim | exact (ar_f3 (by assumption) (by assumption)).elim | exact (ar_f4 (by assumption) (by assumption)).elim | exact (ar_f5 (by assumption) (by assumption)).elim | exact (ar_f6 (by assumption) (by assumption)).elim | exact (ar_f7 (by assumption) (by assumption)).elim | exact (ar_f8 (by assumption) (by assumption)).elim | exact (ar_f9 (by assumption) (by assumption)).elim | exact (ar_f10 (by assumption) (by assumption)).elim) | ((show @Eq _ _ _); first | exact (ar_f1 (by assumption) (by assumption) (by assumption)).elim | exact (ar_f2 (by assumption) (by assumption) (by assumption)).elim | exact (ar_c1 (by assumption) (by assumption)).elim | exact (ar_c2 (by assumption) (by assumption)).elim | exact (ar_c3 (by assumption) (by assumption)).elim | exact (ar_c4 (by assumption) (by assumption)).elim | exact (ar_c5 (by assumption) (by assumption)).elim | exact (ar_c7 (by assumption) (by assumption)).elim | exact (ar_c8 (by assumption) (by assumption)).elim | exact (ar_c9 (by assumption) (by assumption)).elim | exact (ar_c10 (by assumption) (by assumption)).elim | exact (ar_c11 (by assumption) (by assumption)).elim | exact (ar_c12 (by assumption) (by assumption)).elim | exact (ar_c13 (by assumption) (by assumption)).elim | exact (ar_f3 (by assumption) (by assumption)).elim | exact (ar_f4 (by assumption) (by assumption)).elim | exact (ar_f5 (by assumption) (by assumption)).elim | exact (ar_f6 (by assumption) (by assumption)).elim | exact (ar_f7 (by assumption) (by assumption)).elim | exact (ar_f8 (by assumption) (by assumption)).elim | exact (ar_f9 (by assumption) (by assumption)).elim | exact (ar_f10 (by assumption) (by assumption)).elim) | (intro _; first | exact (ar_f1 (by assumption) (by assumption) (by assumption)).elim | exact (ar_f2 (by assumption) (by assumption) (by assumption)).elim | exact (ar_c1 (by assumption) (by assumption)).elim | exact (ar_c2 (by assumption) (by assumption)).elim | exact (ar_c3 (by assumption) (by assumption)).elim | exact (ar_c4 (by assumption) (by assumption)).elim | exact (ar_c5 (by assumption) (by assumption)).elim | exact (ar_c7 (by assumption) (by assumption)).elim | exact (ar_c8 (by assumption) (by assumption)).elim | exact (ar_c9 (by assumption) (by assumption)).elim | exact (ar_c10 (by assumption) (by assumption)).elim | exact (ar_c11 (by assumption) (by assumption)).elim | exact (ar_c12 (by assumption) (by assumption)).elim | exact (ar_c13 (by assumption) (by assumption)).elim | exact (ar_f3 (by assumption) (by assumption)).elim | exact (ar_f4 (by assumption) (by assumption)).elim | exact (ar_f5 (by assumption) (by assumption)).elim | exact (ar_f6 (by assumption) (by assumption)).elim | exact (ar_f7 (by assumption) (by assumption)).elim | exact (ar_f8 (by assumption) (by assumption)).elim | exact (ar_f9 (by assumption) (by assumption)).elim | exact (ar_f10 (by assumption) (by assumption)).elim) | exact ar_i1 (by assumption) | exact ar_i2 (by assumption) | exact ar_i3 (by assumption) (by decide))
  exact True.intro
theorem getM {w : World} {A : Around} {E : Value → Shared → Prop} {s : Shared} {K : Frag} {h₀ : Heap} {L a : Addr} {m : Str → Option Value} {fs : Array Value} {sl : Array (Option Value)} {name : Str} {id : String} {pl : Sem Bool} {Q : Value × List Value → Shared → Prop}
    (F : Fr h₀ L s.heap m) (X : K.In h₀) (hl : K.lookup a = some ⟨.type "re.Pattern", none, .fields fs, sl⟩) (slot : Slot "re.Pattern" name id) (ty : typeOf (.builtin id) = pure (.type "method_descriptor"))
    (h : Q (.builtin id, [.ref a]) s) : wpAny (model PySem.Challenge.rw_ba0041_01.row.prog w) A (getMethod (.ref a) name pl) Q E s := by
  have ho := F.keep _ _ (X _ _ hl)
  exact getMethod_builtin ⟨_, ho, rfl⟩ pa_pattern slot ty (fun b e => by cases e; exact ⟨_, ho, rfl⟩) h
theorem getMm {prog : Program} {w : World} {A : Around} {E : Value → Shared → Prop} {s : Shared} {h₀ : Heap} {L a b : Addr} {x : Str} {t : Tok} {news : List (Addr × Obj)} {pl : Sem Bool} {Q : Value × List Value → Shared → Prop}
    (N : News h₀ L s.heap news) (hm : (a, matchObj x t b) ∈ news) (h : Q (.builtin "re.Match.group", [.ref a]) s) : wpAny (model prog w) A (getMethod (.ref a) "group" pl) Q E s :=
  getMethod_builtin ⟨_, N.get hm, rfl⟩ pa_match slot_group type_group (fun b e => by cases e; exact ⟨_, N.get hm, rfl⟩) h
theorem IsPat.keeps {h h' : Heap} {a : Addr} {code : Array Nat} {g : Nat} (p : IsPat h a code g) (k : ∀ b o, h.get? b = some o → h'.get? b = some o) : IsPat h' a code g :=
  let ⟨o, v, f, c, oc, vs, n, h1, h2, h3, h4, h5, h6⟩ := p; ⟨o, v, f, c, oc, vs, n, k _ _ h1, h2, h3, h4, k _ _ h5, h6⟩
theorem IsPat.of {K : Frag} {h : Heap} {a c : Addr} {v f : Value} {groups : Nat} {sl sl2 : Array (Option Value)} {tc : Value} {od : Option Addr} {vs : Array Value} {n : Nat} {code : Array Nat} (X : K.In h)
    (h1 : K.lookup a = some ⟨.type "re.Pattern", none, .fields #[v, f, .int groups 0, .none, .none, .ref c, .int 0 0], sl⟩) (h2 : K.lookup c = some ⟨tc, od, .seq vs n, sl2⟩)
    (h3 : (vs.map Builtin.Re.reRawOf).map (·.toNat) = code) : IsPat h a code groups := ⟨_, _, _, _, _, _, _, X _ _ h1, rfl, rfl, rfl, X _ _ h2, rfl, h3⟩
abbrev lamQual : Str := (Str.ofString "unescape_char" ++ ".<locals>.") ++ "<lambda>"
/-- the table of code objects of `unescape_char`, and what it holds -/
def TabBlock (T : List (Addr × Obj)) : Prop :=
  T = [(76, tabObj #[])] ∨ ∃ c' oc vs t, T = [(76, tabObj #[rawInt 35, rawInt 31, .ref c']), (c', oc)] ∧ c' ≠ 76 ∧ oc.data = .fields vs ∧ vs[1]? = some (.str lamQual t)

theorem tabBlock_mk {c' : Addr} {oc : Obj} {vs : Array Value} {t : Tok} {P : Prop} (l : 76 < c' ∧ P) (e1 : oc.data = .fields vs) (e2 : vs[1]? = some (.str lamQual t)) : TabBlock [(76, tabObj #[rawInt 35, rawInt 31, .ref c']), (c', oc)] :=
  .inr ⟨c', oc, vs, t, rfl, Nat.ne_of_gt l.1, e1, e2⟩

def SpecT (w : World) (p : Program) (loose : List Str) (mean : ExcName → Option Value) (mg mb : Str → Option Value) (f : Addr) (size : Nat) (vs : List Value) (post : List (Addr × Obj) → Value → Prop) : Prop :=
  ∀ (dp un : Nat) (gd : Option (List Code)) (cn : Str) (cs : Scope) (a : Addr) (ccd : Value) (cl : List (Str × Addr)) (outer : List Env) (A₀ : Around) (base h₀ : Heap) (L : Addr) (m : Str → Option Value) (news T : List (Addr × Obj)) (s : Shared) (Q E : Value → Shared → Prop),
    Below A₀ base outer h₀ → Fr h₀ L s.heap m → Frag.In (hd.heap_39 w.params) h₀ → News h₀ L s.heap (news ++ T) → Top p loose mean mg mb h₀ → cs.kind = .function → dp + size < recursionLimit → un + 8 * size < cLine →
    CodeHd base 80 76 → TabBlock T → (∀ q ∈ news, q.1 ≠ 76) →
    (∀ r tl T' h' tk', Fr h₀ L h' m → News h₀ L h' (tl ++ (news ++ T')) → TabBlock T' → (∀ q ∈ news, ∀ p ∈ tl, q.1 < p.1) → (∀ p ∈ tl, p.1 ≠ 76) → post tl r → Q r { s with heap := h', toks := tk' }) →
    wpAny (model PySem.Challenge.rw_ba0041_01.row.prog w) (ktrTop dp un gd cn cs L a ccd cl outer) (call (.ref f) vs) Q E s


theorem words_pure_1 : True := by
  k_with_none
  w_top off
  k_with "MINE ar" => (with_reducible first | assumption | decide | ((show @LT.lt Nat _ _ _); first | exact ar_n1 (by assumption) | exact ar_n2 (by assumption) | exact ar_n6 (by assumption) | exact ar_n12 (by assumption) | exact ar_n13 (by assumption) | exact ar_k1 (by assumption) | exact ar_k2 (by assumption) | exact ar_k3 (by assumption) | exact ar_k4 (by assumption) | exact ar_k8 (by assumption) | exact ar_m1 (by assumption) | exact ar_m2 (by assumption) | exact ar_m3 (by assumption) | exact ar_m4 (by assumption) | exact ar_m5 (by assumption) | exact ar_e4 (by assumption) | exact ar_e5 (by assumption) | exact ar_r1 (by assumption) | exact Nat.lt_succ_self _ | exact ar_r2 (by assumption) (by decide) | exact ar_r3 (by assumption) (by decide) | exact ar_n7 (by assumption) (by assumption) | exact ar_n8 (by assumption) (by assumption) | exact ar_n16 (by assumption) (by assumption) | exact ar_n20 (by assumption) (by assumption) | exact ar_n21 (by assumption) (by assumption) | exact ar_n23 (by assumption) (by assumption) | exact ar_n24 (by assumption) (by assumption) | exact ar_e17 (by assumption) (by assumption) | exact ar_e19 (by assumption) (by assumption) | exact ar_n14 (by assumption) (by assumption) (by assumption) | exact ar_n26 (by assumption) (by assumption) (by assumption) | exact ar_n27 (by assumption) (by assumption) (by assumption) | exact ar_n15 (by assumption) (by assumption) (by assumption) (by assumption) | exact ar_n22 (by assumption) (by assumption) (by assumption) (by assumption)) | ((show @LE.le Nat _ _ _); first | exact Nat.le_refl _ | exact Nat.le_add_right _ _ | exact ar_n3 (by assumption) | exact ar_n4 (by assumption) | exact ar_n5 (by assumption) | exact ar_k7 (by assumption) | exact ar_k10 (by assumption) | exact ar_k13 (by assumption) | exact ar_e1 (by assumption) | exact ar_e2 (by assumption) | exact ar_e3 (by assumption) | exact ar_e6 (by assumption) | exact ar_e7 (by assumption) | exact ar_e8 (by assumption) | exact ar_s1 (by assumption) | exact ar_w2 (by assumption) | exact ar_n25 (by assumption) | exact ar_n9 (by assumption) (by assumption) | exact ar_n17 (by assumption) (by assumption) | exact ar_n28 (by assumption) (by assumption) | exact ar_e9 (by assumption) (by assumption) | exact ar_e10 (by assumption) (by assumption) | exact ar_e18 (by assumption) (by assumption) | exact ar_s3 (by assumption) (by assumption) | exact ar_n10 (by assumption) (by assumption) (by assumption) | exact ar_n11 (by assumption) (by assumption) (by assumption)) | ((show @LT.lt Int _ _ _); first | exact ar_k9 (by assumption) | exact ar_n18 (by assumption) | exact ar_n19 (by assumption) (by assumption)) | ((show @LE.le Int _ _ _); first | exact Int.natCast_nonneg _) | ((show @Eq Nat _ _); first | exact ar_e11 (by assumption) | exact ar_e12 (by assumption) | exact ar_e13 (by assumption) | exact ar_e15 (by assumption) | exact ar_s2 (by assumption) | exact ar_s4 (by assumption) | exact ar_w6 (by assumption) (by assumption) | exact ar_nn (by assumption)) | ((show @Eq Int _ _); first | exact ar_i5 | exact ar_i6 | exact ar_i7 | exact ar_i8 (by assumption)) | ((show ¬ _); first | exact ar_k5 (by assumption) | exact ar_k6 (by assumption) | exact ar_k11 (by assumption) | exact ar_k12 (by assumption) | exact ar_k14 (by assumption) | exact ar_e14 (by assumption) | exact ar_e16 (by assumption) | exact ar_e20 (by assumption) | exact ar_q1 (by assumption) | exact ar_q2 (by assumption) | exact ar_q3 (by assumption) | exact ar_q4 (by assumption) | exact ar_q5 (by assumption) | exact ar_w7 (by assumption) | exact ar_w8 (by assumption) | exact ar_w14 (by assumption) | exact ar_w16 (by assumption) | exact ar_w18 (by assumption) | exact ar_w19 (by assumption) | exact ar_w20 (by assumption) | exact ar_o3 (by assumption) | exact ar_o4 (by assumption) | exact ar_d (by assumption) (by decide) | exact ar_l1 (by assumption) (by assumption) | exact ar_l2 (by assumption) (by assumption) | exact ar_l3 (by assumption) (by assumption) | exact ar_w17 (by assumption) (by assumption) | exact ar_lv (by assumption) (by assumption) (by assumption) | exact ar_nn2 (by assumption)) | ((show _ ∧ _); first | exact ar_w1 (by assumption) | exact ar_w10 (by assumption) | exact ar_w12 (by assumption) | exact ar_w13 (by assumption) | exact ar_o2 (by assumption) | exact ar_w4 (by assumption) (by assumption) | exact ar_i4 (by assumption) (by assumption)) | ((show _ ∨ _); first | exact ar_o1 (by assumption) | exact ar_w3 (by assumption) (by assumption) | exact ar_w5 (by assumption) (by assumption) | exact ar_w9 (by assumption) (by assumption) | exact ar_w11 (by assumption) (by assumption)) | ((show _ ↔ _); first | exact ar_z3 | exact ar_z4 | exact ar_z5) | ((show False); first | exact (ar_f1 (by assumption) (by assumption) (by assumption)).elim | exact (ar_f2 (by assumption) (by assumption) (by assumption)).elim | exact (ar_c1 (by assumption) (by assumption)).elim | exact (ar_c2 (by assumption) (by assumption)).elim | exact (ar_c3 (by assumption) (by assumption)).elim | exact (ar_c4 (by assumption) (by assumption)).elim | exact (ar_c5 (by assumption) (by assumption)).elim | exact (ar_c7 (by assumption) (by assumption)).elim | exact (ar_c8 (by assumption) (by assumption)).elim | exact (ar_c9 (by assumption) (by assumption)).elim | exact (ar_c10 (by assumption) (by assumption)).elim | exact (ar_c11 (by assumption) (by assumption)).elim | exact (ar_c12 (by assumption) (by assumption)).elim | exact (ar_c13 (by assumption) (by assumption)).elim | exact (ar_f3 (by assumption) (by assumption)).elim | exact (ar_f4 (by assumption) (by assumption)).elim | exact (ar_f5 (by assumption) (by assumption)).elim | exact (ar_f6 (by assumption) (by assumption)).elim | exact (ar_f7 (by assumption) (by assumption)).elim | exact (ar_f8 (by assumption) (by assumption)).elim | exact (ar_f9 (by assumption) (by assumption)).elim | exact (ar_f10 (by assumption) (by assumption)).elim) | ((show @Eq _ _ _); first | exact (ar_f1 (by assumption) (by assumption) (by assumption)).elim | exact (ar_f2 (by assumption) (by assumption) (by assumption)).elim | exact (ar_c1 (by assumption) (by assumption)).elim | exact (ar_c2 (by assumption) (by assumption)).elim | exact (ar_c3 (by assumption) (by assumption)).elim | exact (ar_c4 (by assumption) (by assumption)).elim | exact (ar_c5 (by assumption) (by assumption)).elim | exact (ar_c7 (by assumption) (by assumption)).elim | exact (ar_c8 (by assumption) (by assumption)).elim | exact (ar_c9 (by assumption) (by assumption)).elim | exact (ar_c10 (by assumption) (by assumption)).elim | exact (ar_c11 (by assumption) (by assumption)).elim | exact (ar_c12 (by assumption) (by assumption)).elim | exact (ar_c13 (by assumption) (by assumption)).elim | exact (ar_f3 (by assumption) (by assumption)).elim | exact (ar_f4 (by assumption) (by assumption)).elim | exact (ar_f5 (by assumption) (by assumption)).elim | exact (ar_f6 (by assumption) (by assumption)).elim | exact (ar_f7 (by assumption) (by assumption)).elim | exact (ar_f8 (by assumption) (by assumption)).elim | exact (ar_f9 (by assumption) (by assumption)).elim | exact (ar_f10 (by assumption) (by assumption)).elim) | (intro _; first | exact (ar_f1 (by assumption) (by assumption) (by assumption)).elim | exact (ar_f2 (by assumption) (by assumption) (by assumption)).elim | exact (ar_c1 (by assumption) (by assumption)).elim | exact (ar_c2 (by assumption) (by assumption)).elim | exact (ar_c3 (by assumption) (by assumption)).elim | exact (ar_c4 (by assumption) (by assumption)).elim | exact (ar_c5 (by assumption) (by assumption)).elim | exact (ar_c7 (by assumption) (by assumption)).elim | exact (ar_c8 (by assumption) (by assumption)).elim | exact (ar_c9 (by assumption) (by assumption)).elim | exact (ar_c10 (by assumption) (by assumption)).elim | exact (ar_c11 (by assumption) (by assumption)).elim | exact (ar_c12 (by assumption) (by assumption)).elim | exact (ar_c13 (by assumption) (by assumption)).elim | exact (ar_f3 (by assumption) (by assumption)).elim | exact (ar_f4 (by assumption) (by assumption)).elim | exact (ar_f5 (by assumption) (by assumption)).elim | exact (ar_f6 (by assumption) (by assumption)).elim | exact (ar_f7 (by assumption) (by assumption)).elim | exact (ar_f8 (by assumption) (by assumption)).elim | exact (ar_f9 (by assumption) (by assumption)).elim | exact (ar_f10 (by assumption) (by assumption)).elim) | exact ar_i1 (by assumption) | exact ar_i2 (by assumption) | exact ar_i3 (by assumption) (by decide))
  exact True.intro

/-! ## What is read, as plain functions over units -/
def angle : List U → Option (List U × List U)
  | [] => none
  | u :: r => if u.is 62 then some ([], r) else if u.is 60 || u.is 10 then none else (angle r).map fun p => (u :: p.1, p.2)

def href : Nat → List U → Option (List U × List U)
  | d, [] => if d = 0 then some ([], []) else none
  | d, u :: r =>
    if u.ws then (if d = 0 then some ([], u :: r) else none)
    else if u.is 41 then (match d with | 0 => some ([], u :: r) | d + 1 => (href d r).map fun p => (u :: p.1, p.2))
    else if u.is 40 then (href (d + 1) r).map fun p => (u :: p.1, p.2)
    else (href d r).map fun p => (u :: p.1, p.2)

def closer (op : Nat) : Nat := if op = 40 then 41 else op
def title (op : Nat) : List U → Option (List U × List U)
  | [] => none
  | u :: r => if u.is (closer op) then some ([], r) else if op = 40 ∧ u.is 40 = true then none else (title op r).map fun p => (u :: p.1, p.2)

/-- behind the destination: (title, what is left behind the closing parenthesis) -/
def ending (r : List U) (t : List U) : Option (List U × List U) :=
  match r with
  | u :: r' => if u.is 41 then some (t, r') else none
  | [] => none
def isOp (u : U) : Bool := u.is 40 || u.is 34 || u.is 39
def behind (r : List U) : Option (List U × List U) :=
  match dropWs r with
  | u :: r' => if (dropWs r).length < r.length ∧ isOp u = true then (match title u.c r' with | some (t, r3) => ending (dropWs r3) t | none => none) else ending (u :: r') []
  | [] => none
def dest (us : List U) : Option (List U × List U) :=
  match us with
  | u :: r => if u.is 60 then angle r else href 0 (u :: r)
  | [] => none
/-- (destination, title, what is left) -/
def read (us : List U) : Option (List U × List U × List U) :=
  match dest (dropWs us) with
  | some (g, r) => (behind r).map fun p => (g, p.1, p.2)
  | none => none

def nls : List U → Nat
  | [] => 0
  | u :: r => (if u.is 10 then 1 else 0) + nls r

theorem words_use_1 : True := by
  k_with_none
  w_top off
  k_with "MINE ar" => (with_reducible first | assumption | decide | ((show @LT.lt Nat _ _ _); first | exact ar_n1 (by assumption) | exact ar_n2 (by assumption) | exact ar_n6 (by assumption) | exact ar_n12 (by assumption) | exact ar_n13 (by assumption) | exact ar_k1 (by assumption) | exact ar_k2 (by assumption) | exact ar_k3 (by assumption) | exact ar_k4 (by assumption) | exact ar_k8 (by assumption) | exact ar_m1 (by assumption) | exact ar_m2 (by assumption) | exact ar_m3 (by assumption) | exact ar_m4 (by assumption) | exact ar_m5 (by assumption) | exact ar_e4 (by assumption) | exact ar_e5 (by assumption) | exact ar_r1 (by assumption) | exact Nat.lt_succ_self _ | exact ar_r2 (by assumption) (by decide) | exact ar_r3 (by assumption) (by decide) | exact ar_n7 (by assumption) (by assumption) | exact ar_n8 (by assumption) (by assumption) | exact ar_n16 (by assumption) (by assumption) | exact ar_n20 (by assumption) (by assumption) | exact ar_n21 (by assumption) (by assumption) | exact ar_n23 (by assumption) (by assumption) | exact ar_n24 (by assumption) (by assumption) | exact ar_e17 (by assumption) (by assumption) | exact ar_e19 (by assumption) (by assumption) | exact ar_n14 (by assumption) (by assumption) (by assumption) | exact ar_n26 (by assumption) (by assumption) (by assumption) | exact ar_n27 (by assumption) (by assumption) (by assumption) | exact ar_n15 (by assumption) (by assumption) (by assumption) (by assumption) | exact ar_n22 (by assumption) (by assumption) (by assumption) (by assumption)) | ((show @LE.le Nat _ _ _); first | exact Nat.le_refl _ | exact Nat.le_add_right _ _ | exact ar_n3 (by assumption) | exact ar_n4 (by assumption) | exact ar_n5 (by assumption) | exact ar_k7 (by assumption) | exact ar_k10 (by assumption) | exact ar_k13 (by assumption) | exact ar_e1 (by assumption) | exact ar_e2 (by assumption) | exact ar_e3 (by assumption) | exact ar_e6 (by assumption) | exact ar_e7 (by assumption) | exact ar_e8 (by assumption) | exact ar_s1 (by assumption) | exact ar_w2 (by assumption) | exact ar_n25 (by assumption) | exact ar_n9 (by assumption) (by assumption) | exact ar_n17 (by assumption) (by assumption) | exact ar_n28 (by assumption) (by assumption) | exact ar_e9 (by assumption) (by assumption) | exact ar_e10 (by assumption) (by assumption) | exact ar_e18 (by assumption) (by assumption) | exact ar_s3 (by assumption) (by assumption) | exact ar_n10 (by assumption) (by assumption) (by assumption) | exact ar_n11 (by assumption) (by assumption) (by assumption)) | ((show @LT.lt Int _ _ _); first | exact ar_k9 (by assumption) | exact ar_n18 (by assumption) | exact ar_n19 (by assumption) (by assumption)) | ((show @LE.le Int _ _ _); first | exact Int.natCast_nonneg _) | ((show @Eq Nat _ _); first | exact ar_e11 (by assumption) | exact ar_e12 (by assumption) | exact ar_e13 (by assumption) | exact ar_e15 (by assumption) | exact ar_s2 (by assumption) | exact ar_s4 (by assumption) | exact ar_w6 (by assumption) (by assumption) | exact ar_nn (by assumption)) | ((show @Eq Int _ _); first | exact ar_i5 | exact ar_i6 | exact ar_i7 | exact ar_i8 (by assumption)) | ((show ¬ _); first | exact ar_k5 (by assumption) | exact ar_k6 (by assumption) | exact ar_k11 (by assumption) | exact ar_k12 (by assumption) | exact ar_k14 (by assumption) | exact ar_e14 (by assumption) | exact ar_e16 (by assumption) | exact ar_e20 (by assumption) | exact ar_q1 (by assumption) | exact ar_q2 (by assumption) | exact ar_q3 (by assumption) | exact ar_q4 (by assumption) | exact ar_q5 (by assumption) | exact ar_w7 (by assumption) | exact ar_w8 (by assumption) | exact ar_w14 (by assumption) | exact ar_w16 (by assumption) | exact ar_w18 (by assumption) | exact ar_w19 (by assumption) | exact ar_w20 (by assumption) | exact ar_o3 (by assumption) | exact ar_o4 (by assumption) | exact ar_d (by assumption) (by decide) | exact ar_l1 (by assumption) (by assumption) | exact ar_l2 (by assumption) (by assumption) | exact ar_l3 (by assumption) (by assumption) | exact ar_w17 (by assumption) (by assumption) | exact ar_lv (by assumption) (by assumption) (by assumption) | exact ar_nn2 (by assumption)) | ((show _ ∧ _); first | exact ar_w1 (by assumption) | exact ar_w10 (by assumption) | exact ar_w12 (by assumption) | exact ar_w13 (by assumption) | exact ar_o2 (by assumption) | exact ar_w4 (by assumption) (by assumption) | exact ar_i4 (by assumption) (by assumption)) | ((show _ ∨ _); first | exact ar_o1 (by assumption) | exact ar_w3 (by assumption) (by assumption) | exact ar_w5 (by assumption) (by assumption) | exact ar_w9 (by assumption) (by assumption) | exact ar_w11 (by assumption) (by assumption)) | ((show _ ↔ _); first | exact ar_z3 | exact ar_z4 | exact ar_z5) | ((show False); first | exact (ar_f1 (by assumption) (by assumption) (by assumption)).elim | exact (ar_f2 (by assumption) (by assumption) (by assumption)).elim | exact (ar_c1 (by assumption) (by assumption)).elim | exact (ar_c2 (by assumption) (by assumption)).elim | exact (ar_c3 (by assumption) (by assumption)).elim | exact (ar_c4 (by assumption) (by assumption)).elim | exact (ar_c5 (by assumption) (by assumption)).elim | exact (ar_c7 (by assumption) (by assumption)).elim | exact (ar_c8 (by assumption) (by assumption)).elim | exact (ar_c9 (by assumption) (by assumption)).elim | exact (ar_c10 (by assumption) (by assumption)).elim | exact (ar_c11 (by assumption) (by assumption)).elim | exact (ar_c12 (by assumption) (by assumption)).elim | exact (ar_c13 (by assumption) (by assumption)).elim | exact (ar_f3 (by assumption) (by assumption)).elim | exact (ar_f4 (by assumption) (by assumption)).elim | exact (ar_f5 (by assumption) (by assumption)).elim | exact (ar_f6 (by assumption) (by assumption)).elim | exact (ar_f7 (by assumption) (by assumption)).elim | exact (ar_f8 (by assumption) (by assumption)).elim | exact (ar_f9 (by assumption) (by assumption)).elim | exact (ar_f10 (by assumption) (by assumption)).elim) | ((show @Eq _ _ _); first | exact (ar_f1 (by assumption) (by assumption) (by assumption)).elim | exact (ar_f2 (by assumption) (by assumption) (by assumption)).elim | exact (ar_c1 (by assumption) (by assumption)).elim | exact (ar_c2 (by assumption) (by assumption)).elim | exact (ar_c3 (by assumption) (by assumption)).elim | exact (ar_c4 (by assumption) (by assumption)).elim | exact (ar_c5 (by assumption) (by assumption)).elim | exact (ar_c7 (by assumption) (by assumption)).elim | exact (ar_c8 (by assumption) (by assumption)).elim | exact (ar_c9 (by assumption) (by assumption)).elim | exact (ar_c10 (by assumption) (by assumption)).elim | exact (ar_c11 (by assumption) (by assumption)).elim | exact (ar_c12 (by assumption) (by assumption)).elim | exact (ar_c13 (by assumption) (by assumption)).elim | exact (ar_f3 (by assumption) (by assumption)).elim | exact (ar_f4 (by assumption) (by assumption)).elim | exact (ar_f5 (by assumption) (by assumption)).elim | exact (ar_f6 (by assumption) (by assumption)).elim | exact (ar_f7 (by assumption) (by assumption)).elim | exact (ar_f8 (by assumption) (by assumption)).elim | exact (ar_f9 (by assumption) (by assumption)).elim | exact (ar_f10 (by assumption) (by assumption)).elim) | (intro _; first | exact (ar_f1 (by assumption) (by assumption) (by assumption)).elim | exact (ar_f2 (by assumption) (by assumption) (by assumption)).elim | exact (ar_c1 (by assumption) (by assumption)).elim | exact (ar_c2 (by assumption) (by assumption)).elim | exact (ar_c3 (by assumption) (by assumption)).elim | exact (ar_c4 (by assumption) (by assumption)).elim | exact (ar_c5 (by assumption) (by assumption)).elim | exact (ar_c7 (by assumption) (by assumption)).elim | exact (ar_c8 (by assumption) (by assumption)).elim | exact (ar_c9 (by assumption) (by assumption)).elim | exact (ar_c10 (by assumption) (by assumption)).elim | exact (ar_c11 (by assumption) (by assumption)).elim | exact (ar_c12 (by assumption) (by assumption)).elim | exact (ar_c13 (by assumption) (by assumption)).elim | exact (ar_f3 (by assumption) (by assumption)).elim | exact (ar_f4 (by assumption) (by assumption)).elim | exact (ar_f5 (by assumption) (by assumption)).elim | exact (ar_f6 (by assumption) (by assumption)).elim | exact (ar_f7 (by assumption) (by assumption)).elim | exact (ar_f8 (by assumption) (by assumption)).elim | exact (ar_f9 (by assumption) (by assumption)).elim | exact (ar_f10 (by assumption) (by assumption)).elim) | exact ar_i1 (by assumption) | exact ar_i2 (by assumption) | exact ar_i3 (by assumption) (by decide))
  exact True.intro

theorem SpecOf.use {w : World} {p : Program} {loose : List Str} {mean : ExcName → Option Value} {mg mb : Str → Option Value} {f : Addr} {size : Nat} {vs : List Value} {post : List (Addr × Obj) → Value → Prop} (h : SpecOf w p loose mean mg mb f size vs post)
    {dp un : Nat} {gd : Option (List Code)} {cn : Str} {cs : Scope} {a : Addr} {ccd : Value} {cl : List (Str × Addr)} {outer : List Env} {A₀ : Around} {base h₀ : Heap} {L : Addr} {m : Str → Option Value} {news : List (Addr × Obj)} {s : Shared} {Q E : Value → Shared → Prop}
    (B : Below A₀ base outer h₀) (F : Fr h₀ L s.heap m) (X : Frag.In (hd.heap_39 w.params) h₀) (N : News h₀ L s.heap news) (T : Top p loose mean mg mb h₀) (hk : cs.kind = .function) (hd : dp + size < recursionLimit) (hu : un + 8 * size < cLine)
    (ret : ∀ r tl h' tk', Fr h₀ L h' m → News h₀ L h' (tl ++ news) → (∀ q ∈ news, ∀ p ∈ tl, q.1 < p.1) → post tl r → Q r { s with heap := h', toks := tk' }) :
    wpAny (model PySem.Challenge.rw_ba0041_01.row.prog w) (ktrTop dp un gd cn cs L a ccd cl outer) (call (.ref f) vs) Q E s :=
  h _ _ _ _ _ _ _ _ _ _ _ _ _ _ _ _ _ _ B F X N T hk hd hu ret

/-- the same with keyword arguments -/
def SpecK (w : World) (p : Program) (loose : List Str) (mean : ExcName → Option Value) (mg mb : Str → Option Value) (f : Addr) (size : Nat) (vs : List Value) (kw : List (Str × Value)) (post : List (Addr × Obj) → Value → Prop) : Prop :=
  ∀ (dp un : Nat) (gd : Option (List Code)) (cn : Str) (cs : Scope) (a : Addr) (ccd : Value) (cl : List (Str × Addr)) (outer : List Env) (A₀ : Around) (base h₀ : Heap) (L : Addr) (m : Str → Option Value) (news : List (Addr × Obj)) (s : Shared) (Q E : Value → Shared → Prop),
    Below A₀ base outer h₀ → Fr h₀ L s.heap m → Frag.In (hd.heap_39 w.params) h₀ → News h₀ L s.heap news → Top p loose mean mg mb h₀ → cs.kind = .function → dp + size < recursionLimit → un + 8 * size < cLine →
    (∀ r tl h' tk', Fr h₀ L h' m → News h₀ L h' (tl ++ news) → (∀ q ∈ news, ∀ p ∈ tl, q.1 < p.1) → post tl r → Q r { s with heap := h', toks := tk' }) →
    wpAny (model PySem.Challenge.rw_ba0041_01.row.prog w) (ktrTop dp un gd cn cs L a ccd cl outer) (call (.ref f) vs kw) Q E s
theorem SpecK.use {w : World} {p : Program} {loose : List Str} {mean : ExcName → Option Value} {mg mb : Str → Option Value} {f : Addr} {size : Nat} {vs : List Value} {kw : List (Str × Value)} {post : List (Addr × Obj) → Value → Prop} (h : SpecK w p loose mean mg mb f size vs kw post)
    {dp un : Nat} {gd : Option (List Code)} {cn : Str} {cs : Scope} {a : Addr} {ccd : Value} {cl : List (Str × Addr)} {outer : List Env} {A₀ : Around} {base h₀ : Heap} {L : Addr} {m : Str → Option Value} {news : List (Addr × Obj)} {s : Shared} {Q E : Value → Shared → Prop}
    (B : Below A₀ base outer h₀) (F : Fr h₀ L s.heap m) (X : Frag.In (hd.heap_39 w.params) h₀) (N : News h₀ L s.heap news) (T : Top p loose mean mg mb h₀) (hk : cs.kind = .function) (hd : dp + size < recursionLimit) (hu : un + 8 * size < cLine)
    (ret : ∀ r tl h' tk', Fr h₀ L h' m → News h₀ L h' (tl ++ news) → (∀ q ∈ news, ∀ p ∈ tl, q.1 < p.1) → post tl r → Q r { s with heap := h', toks := tk' }) :
    wpAny (model PySem.Challenge.rw_ba0041_01.row.prog w) (ktrTop dp un gd cn cs L a ccd cl outer) (call (.ref f) vs kw) Q E s :=
  h _ _ _ _ _ _ _ _ _ _ _ _ _ _ _ _ _ _ B F X N T hk hd hu ret

theorem drop1 {h₀ h : Heap} {L : Addr} {x y : Addr × Obj} {news : List (Addr × Obj)} (N : News h₀ L h (x :: y :: news)) : News h₀ L h ([x] ++ news) := fun q hq => N q (by
  rcases List.mem_cons.mp hq with h | h
  · rw [h]; exact .head _
  · exact .tail _ (.tail _ h))

theorem SpecT.use {w : World} {p : Program} {loose : List Str} {mean : ExcName → Option Value} {mg mb : Str → Option Value} {f : Addr} {size : Nat} {vs : List Value} {post : List (Addr × Obj) → Value → Prop} (h : SpecT w p loose mean mg mb f size vs post)
    {dp un : Nat} {gd : Option (List Code)} {cn : Str} {cs : Scope} {a : Addr} {ccd : Value} {cl : List (Str × Addr)} {outer : List Env} {A₀ : Around} {base h₀ : Heap} {L : Addr} {m : Str → Option Value} {led : List (Addr × Obj)} {s : Shared} {Q E : Value → Shared → Prop} (news T : List (Addr × Obj))
    (B : Below A₀ base outer h₀) (F : Fr h₀ L s.heap m) (X : Frag.In (hd.heap_39 w.params) h₀) (N : News h₀ L s.heap led) (Tt : Top p loose mean mg mb h₀) (hk : cs.kind = .function) (hd : dp + size < recursionLimit) (hu : un + 8 * size < cLine)
    (hC : CodeHd base 80 76) (hT : TabBlock T) (h76 : ∀ q ∈ news, q.1 ≠ 76) (hsub : ∀ q ∈ news ++ T, q ∈ led)
    (ret : ∀ r tl T' h' tk', Fr h₀ L h' m → News h₀ L h' (tl ++ (news ++ T')) → TabBlock T' → (∀ q ∈ news, ∀ p ∈ tl, q.1 < p.1) → (∀ p ∈ tl, p.1 ≠ 76) → post tl r → Q r { s with heap := h', toks := tk' }) :
    wpAny (model PySem.Challenge.rw_ba0041_01.row.prog w) (ktrTop dp un gd cn cs L a ccd cl outer) (call (.ref f) vs) Q E s :=
  h _ _ _ _ _ _ _ _ _ _ _ _ _ _ _ _ _ _ _ B F X (fun q hq => N q (hsub q hq)) Tt hk hd hu hC hT h76 ret

theorem notin_c {prog : Program} {w : World} {A : Around} {E : Value → Shared → Prop} {s : Shared} {y : Str} {c : Nat} {t u : Tok} {Q : Value → Shared → Prop} (P : Prop) [Decidable P] (hP : c ∈ y.cps.toList ↔ P)
    (h : Q (.bool (decide (¬ P))) s) : wpAny (model prog w) A (compareOp .NotIn (.str ⟨#[c]⟩ u) (.str y t)) Q E s := by
  refine PyProof.Rows.notIn_str ?_
  have e : (!(!(Builtin.Str.occurrences y ⟨#[c]⟩ 0 y.length 1).isEmpty)) = decide (¬ P) := by
    rw [StrLaws.found_one]
    by_cases hp : P
    · simp [hp, hP]
    · simp [hp, hP]
  rw [e]
  exact h

theorem addrOf {h₀ h : Heap} {L a : Addr} {o : Obj} {led : List (Addr × Obj)} (_N : News h₀ L h ((a, o) :: led)) : ∃ x : Addr, x = a := ⟨a, rfl⟩
theorem drop2 {h₀ h : Heap} {L : Addr} {x y : Addr × Obj} {news : List (Addr × Obj)} (N : News h₀ L h (x :: y :: news)) : News h₀ L h (x :: news) := fun q hq => N q (by
  rcases List.mem_cons.mp hq with h | h
  · rw [h]; exact .head _
  · exact .tail _ (.tail _ h))

theorem append_T {prog : Program} {w : World} {A : Around} {E : Value → Shared → Prop} {s : Shared} {h₀ : Heap} {L l : Addr} {m : Str → Option Value} {rest : List (Addr × Obj)} {pcs : List Value} {n : Nat} {x : Value} {Q : Value → Shared → Prop} (F : Fr h₀ L s.heap m) (N : News h₀ L s.heap ((l, listOf pcs.toArray n) :: rest)) (hl : ∀ q ∈ rest, q.1 ≠ l) (hz : pcs.length < 1000)
    (h : ∀ h', Fr h₀ L h' m → News h₀ L h' ((l, listOf (pcs ++ [x]).toArray (n + 1)) :: rest) → Q .none { s with heap := h' }) : wpAny (model prog w) A (call (.builtin "list.append") [.ref l, x]) Q E s :=
  append_K F N (Upd.head hl) (fun h' F' N' => h h' F' (by simpa using N')) (by rw [sizeLine_eq]; simp; omega)
theorem cutA {prog : Program} {w : World} {A : Around} {E : Value → Shared → Prop} {s : Shared} {p : Sem Flow} {Post : Flow → Shared → Prop} (R : Shared → Prop)
    (h : ∀ Po : Flow → Shared → Prop, (∀ s', R s' → Po .next s') → (∀ v s', Post (.ret v) s' → Po (.ret v) s') → wpAny (model prog w) A p Po E s) (k : ∀ s', R s' → Post .next s') : wpAny (model prog w) A p Post E s :=
  h Post k fun _ _ h => h
section
variable {prog : Program} {w : World} {A : Around} {E : Value → Shared → Prop} {s : Shared} {env : Env} {h₀ : Heap} {L : Addr} {Q : Flow → Shared → Prop}
theorem ksw_abs {σ : Type} {test : Expr} {body : List Stmt} {pos : Pos} {m₀ : Str → Option Value} (Led : σ → List (Addr × Obj)) (ps : σ → List (Str × Value)) (stored : List Str) (P : σ → Prop) (μ : σ → Nat) (c₀ : σ)
    (F : Fr h₀ L s.heap m₀) (N : News h₀ L s.heap (Led c₀)) (hk : ∀ p ∈ ps c₀, m₀ p.1 = some p.2) (hp : P c₀)
    (turn : ∀ (R : Flow → Shared → Prop) (c : σ) (u : Str → Option Value) h tk, (∀ f s', KswPost h₀ L s Led ps (fun _ => True) stored m₀ P μ Q c f s' → R f s') → P c → Fr h₀ L h (kstB (fun z => if stored.contains z then u z else m₀ z) (ps c)) → News h₀ L h (Led c) →
      wpAny (model prog w) A (isTrue test env (eval test env)) (fun b s₂ =>
        if b = true then wpAny (model prog w) A (execs body env) R E s₂ else Q .next s₂) E { s with heap := h, toks := tk })
    (hE : PassesOwn (model prog w) A env E := by passes_own) :
    wpAny (model prog w) A (exec (.While test body [] pos) env) Q E s :=
  ksw_while Led ps (fun _ => True) stored P μ c₀ F N trivial hk hp (fun c u h tk _ hP F N => turn _ c u h tk (fun _ _ h => h) hP F N) hE
end

local macro_rules | `(tactic| k_all) => `(tactic| assumption)

theorem ite_ff9 {p q : Prop} (h : q) : if false = true then p else q := by simpa using h
theorem ite_tt9 {p q : Prop} (h : p) : if true = true then p else q := by simpa using h
theorem words_s_skip_1 : True := by
  k_with_none
  w_top off
  k_with "MINE ar" => (with_reducible first | assumption | decide | ((show @LT.lt Nat _ _ _); first | exact ar_n1 (by assumption) | exact ar_n2 (by assumption) | exact ar_n6 (by assumption) | exact ar_n12 (by assumption) | exact ar_n13 (by assumption) | exact ar_k1 (by assumption) | exact ar_k2 (by assumption) | exact ar_k3 (by assumption) | exact ar_k4 (by assumption) | exact ar_k8 (by assumption) | exact ar_m1 (by assumption) | exact ar_m2 (by assumption) | exact ar_m3 (by assumption) | exact ar_m4 (by assumption) | exact ar_m5 (by assumption) | exact ar_e4 (by assumption) | exact ar_e5 (by assumption) | exact ar_r1 (by assumption) | exact Nat.lt_succ_self _ | exact ar_r2 (by assumption) (by decide) | exact ar_r3 (by assumption) (by decide) | exact ar_n7 (by assumption) (by assumption) | exact ar_n8 (by assumption) (by assumption) | exact ar_n16 (by assumption) (by assumption) | exact ar_n20 (by assumption) (by assumption) | exact ar_n21 (by assumption) (by assumption) | exact ar_n23 (by assumption) (by assumption) | exact ar_n24 (by assumption) (by assumption) | exact ar_e17 (by assumption) (by assumption) | exact ar_e19 (by assumption) (by assumption) | exact ar_n14 (by assumption) (by assumption) (by assumption) | exact ar_n26 (by assumption) (by assumption) (by assumption) | exact ar_n27 (by assumption) (by assumption) (by assumption) | exact ar_n15 (by assumption) (by assumption) (by assumption) (by assumption) | exact ar_n22 (by assumption) (by assumption) (by assumption) (by assumption)) | ((show @LE.le Nat _ _ _); first | exact Nat.le_refl _ | exact Nat.le_add_right _ _ | exact ar_n3 (by assumption) | exact ar_n4 (by assumption) | exact ar_n5 (by assumption) | exact ar_k7 (by assumption) | exact ar_k10 (by assumption) | exact ar_k13 (by assumption) | exact ar_e1 (by assumption) | exact ar_e2 (by assumption) | exact ar_e3 (by assumption) | exact ar_e6 (by assumption) | exact ar_e7 (by assumption) | exact ar_e8 (by assumption) | exact ar_s1 (by assumption) | exact ar_w2 (by assumption) | exact ar_n25 (by assumption) | exact ar_n9 (by assumption) (by assumption) | exact ar_n17 (by assumption) (by assumption) | exact ar_n28 (by assumption) (by assumption) | exact ar_e9 (by assumption) (by assumption) | exact ar_e10 (by assumption) (by assumption) | exact ar_e18 (by assumption) (by assumption) | exact ar_s3 (by assumption) (by assumption) | exact ar_n10 (by assumption) (by assumption) (by assumption) | exact ar_n11 (by assumption) (by assumption) (by assumption)) | ((show @LT.lt Int _ _ _); first | exact ar_k9 (by assumption) | exact ar_n18 (by assumption) | exact ar_n19 (by assumption) (by assumption)) | ((show @LE.le Int _ _ _); first | exact Int.natCast_nonneg _) | ((show @Eq Nat _ _); first | exact ar_e11 (by assumption) | exact ar_e12 (by assumption) | exact ar_e13 (by assumption) | exact ar_e15 (by assumption) | exact ar_s2 (by assumption) | exact ar_s4 (by assumption) | exact ar_w6 (by assumption) (by assumption) | exact ar_nn (by assumption)) | ((show @Eq Int _ _); first | exact ar_i5 | exact ar_i6 | exact ar_i7 | exact ar_i8 (by assumption)) | ((show ¬ _); first | exact ar_k5 (by assumption) | exact ar_k6 (by assumption) | exact ar_k11 (by assumption) | exact ar_k12 (by assumption) | exact ar_k14 (by assumption) | exact ar_e14 (by assumption) | exact ar_e16 (by assumption) | exact ar_e20 (by assumption) | exact ar_q1 (by assumption) | exact ar_q2 (by assumption) | exact ar_q3 (by assumption) | exact ar_q4 (by assumption) | exact ar_q5 (by assumption) | exact ar_w7 (by assumption) | exact ar_w8 (by assumption) | exact ar_w14 (by assumption) | exact ar_w16 (by assumption) | exact ar_w18 (by assumption) | exact ar_w19 (by assumption) | exact ar_w20 (by assumption) | exact ar_o3 (by assumption) | exact ar_o4 (by assumption) | exact ar_d (by assumption) (by decide) | exact ar_l1 (by assumption) (by assumption) | exact ar_l2 (by assumption) (by assumption) | exact ar_l3 (by assumption) (by assumption) | exact ar_w17 (by assumption) (by assumption) | exact ar_lv (by assumption) (by assumption) (by assumption) | exact ar_nn2 (by assumption)) | ((show _ ∧ _); first | exact ar_w1 (by assumption) | exact ar_w10 (by assumption) | exact ar_w12 (by assumption) | exact ar_w13 (by assumption) | exact ar_o2 (by assumption) | exact ar_w4 (by assumption) (by assumption) | exact ar_i4 (by assumption) (by assumption)) | ((show _ ∨ _); first | exact ar_o1 (by assumption) | exact ar_w3 (by assumption) (by assumption) | exact ar_w5 (by assumption) (by assumption) | exact ar_w9 (by assumption) (by assumption) | exact ar_w11 (by assumption) (by assumption)) | ((show _ ↔ _); first | exact ar_z3 | exact ar_z4 | exact ar_z5) | ((show False); first | exact (ar_f1 (by assumption) (by assumption) (by assumption)).elim | exact (ar_f2 (by assumption) (by assumption) (by assumption)).elim | exact (ar_c1 (by assumption) (by assumption)).elim | exact (ar_c2 (by assumption) (by assumption)).elim | exact (ar_c3 (by assumption) (by assumption)).elim | exact (ar_c4 (by assumption) (by assumption)).elim | exact (ar_c5 (by assumption) (by assumption)).elim | exact (ar_c7 (by assumption) (by assumption)).elim | exact (ar_c8 (by assumption) (by assumption)).elim | exact (ar_c9 (by assumption) (by assumption)).elim | exact (ar_c10 (by assumption) (by assumption)).elim | exact (ar_c11 (by assumption) (by assumption)).elim | exact (ar_c12 (by assumption) (by assumption)).elim | exact (ar_c13 (by assumption) (by assumption)).elim | exact (ar_f3 (by assumption) (by assumption)).elim | exact (ar_f4 (by assumption) (by assumption)).elim | exact (ar_f5 (by assumption) (by assumption)).elim | exact (ar_f6 (by assumption) (by assumption)).elim | exact (ar_f7 (by assumption) (by assumption)).elim | exact (ar_f8 (by assumption) (by assumption)).elim | exact (ar_f9 (by assumption) (by assumption)).elim | exact (ar_f10 (by assumption) (by assumption)).elim) | ((show @Eq _ _ _); first | exact (ar_f1 (by assumption) (by assumption) (by assumption)).elim | exact (ar_f2 (by assumption) (by assumption) (by assumption)).elim | exact (ar_c1 (by assumption) (by assumption)).elim | exact (ar_c2 (by assumption) (by assumption)).elim | exact (ar_c3 (by assumption) (by assumption)).elim | exact (ar_c4 (by assumption) (by assumption)).elim | exact (ar_c5 (by assumption) (by assumption)).elim | exact (ar_c7 (by assumption) (by assumption)).elim | exact (ar_c8 (by assumption) (by assumption)).elim | exact (ar_c9 (by assumption) (by assumption)).elim | exact (ar_c10 (by assumption) (by assumption)).elim | exact (ar_c11 (by assumption) (by assumption)).elim | exact (ar_c12 (by assumption) (by assumption)).elim | exact (ar_c13 (by assumption) (by assumption)).elim | exact (ar_f3 (by assumption) (by assumption)).elim | exact (ar_f4 (by assumption) (by assumption)).elim | exact (ar_f5 (by assumption) (by assumption)).elim | exact (ar_f6 (by assumption) (by assumption)).elim | exact (ar_f7 (by assumption) (by assumption)).elim | exact (ar_f8 (by assumption) (by assumption)).elim | exact (ar_f9 (by assumption) (by assumption)).elim | exact (ar_f10 (by assumption) (by assumption)).elim) | (intro _; first | exact (ar_f1 (by assumption) (by assumption) (by assumption)).elim | exact (ar_f2 (by assumption) (by assumption) (by assumption)).elim | exact (ar_c1 (by assumption) (by assumption)).elim | exact (ar_c2 (by assumption) (by assumption)).elim | exact (ar_c3 (by assumption) (by assumption)).elim | exact (ar_c4 (by assumption) (by assumption)).elim | exact (ar_c5 (by assumption) (by assumption)).elim | exact (ar_c7 (by assumption) (by assumption)).elim | exact (ar_c8 (by assumption) (by assumption)).elim | exact (ar_c9 (by assumption) (by assumption)).elim | exact (ar_c10 (by assumption) (by assumption)).elim | exact (ar_c11 (by assumption) (by assumption)).elim | exact (ar_c12 (by assumption) (by assumption)).elim | exact (ar_c13 (by assumption) (by assumption)).elim | exact (ar_f3 (by assumption) (by assumption)).elim | exact (ar_f4 (by assumption) (by assumption)).elim | exact (ar_f5 (by assumption) (by assumption)).elim | exact (ar_f6 (by assumption) (by assumption)).elim | exact (ar_f7 (by assumption) (by assumption)).elim | exact (ar_f8 (by assumption) (by assumption)).elim | exact (ar_f9 (by assumption) (by assumption)).elim | exact (ar_f10 (by assumption) (by assumption)).elim) | exact ar_i1 (by assumption) | exact ar_i2 (by assumption) | exact ar_i3 (by assumption) (by decide))
  k_with "MINE enter" => (refine' code_def ?zqk1 ?zqk2 ?zqk3 ?zqk4 ?zqk5 ?zqkA ?zqkF ?zqkK ?zqk6 ?zqk7 ?zqk8 ?zqk9 ?zqkB ?_ ?zqc2 ?zqc3 ?zqc4 ?zqc5; (case zqkA => exact rfl); (case zqkF => exact rfl); (case zqkK => assumption); (case zqk1 => k_asm); (case zqk2 => k_asm); (case zqk3 => k_asm); (case zqk4 => k_asm); (case zqk5 => k_asm); (case zqk6 => k_is); (case zqk7 => k_is); (case zqk8 => ktr_room); (case zqk9 => first | exact BindsTo.of_eq rfl | exact binds_K (by k_in) rfl (by k_is) rfl rfl rfl); (case zqc5 => decide); (case zqkB => exact locs rfl); (case zqc2 => exact rfl); (case zqc3 => exact rfl); (case zqc4 => exact rfl); k_whole; intro g' L' h' FG' F' N' B' X' T'; (try dsimp only); (try k_lift B'); (try k_fold))
  k_with "exec While BoolOp cons nil" => (refine stop ?_)
  k_with "exec While Compare cons nil" => (refine stop ?_)
  k_with "MINE same" => (intro z h2 h3; simp only [List.forall_mem_cons, List.not_mem_nil, false_implies, implies_true, and_true, ne_eq] at h2; (try simp only [List.contains_cons, List.contains_nil, Bool.or_false, Bool.or_eq_false_iff, beq_eq_false_iff_ne, ne_eq] at h3); simp [kstB, h2, h3])
  k_with "KswPost" => (refine stop ?_)
  k_with "subscriptTail Name Name str int" => (k_here; (with_unfolding_all refine' item_a ?zqk0 ?zqk1 ?zqk2 ?zqk3 ?_; (case zqk0 => assumption); (case zqk1 => first | rfl | exact Int.natCast_add _ _ | omega); (case zqk2 => omega); (case zqk3 => omega)); intro hItem')
  k_with "subscriptTail Name BinOp str int" => (k_here; (with_unfolding_all refine' item_a (n := _ + 1) ?zqk0 ?zqk1 ?zqk2 ?zqk3 ?_; (case zqk0 => assumption); (case zqk1 => rfl); (case zqk2 => omega); (case zqk3 => omega)); intro hItem')
  k_with "compareOp Eq str str" => (k_here; first | refine eq_c lit_lt ?_ | refine eq_c lit_gt ?_ | refine eq_c lit_bs ?_ | refine eq_c lit_lp ?_ | refine eq_c lit_rp ?_ | refine eq_c lit_nl ?_ | refine eq_c lit_cr ?_ | refine eq_c lit_del ?_ | refine eq_c lit_nul ?_ | refine eq_c lit_blank ?_)
  k_with "compareOp In str str" => (k_here; first | refine in_c _ (in_ws _) ?_ | refine in_c _ (in_bt _) ?_ | refine in_c _ (in_nr _) ?_ | refine in_c _ (in_bad _) ?_ | refine in_c _ (in_punct _) ?_)
  k_with "call builtin:len" => (k_here; (with_reducible show wpAny _ _ (call (Value.builtin "len") [Value.str _ _]) _ _ _); refine len_c (by omega) ?_)
  k_with "call ref" => (k_here; (with_reducible show wpAny _ _ (call (Value.ref _) _ _) _ _ _); refine stop ?_)
  k_with "MINE room" => ((case B => k_asm); (case F => k_asm); (case X => k_asm); (case N => k_asm); (case T => k_asm); (case hk => first | exact rfl | assumption); (case hd => ktr_room); (case hu => ktr_units))
  k_with "getMethod ref" => (k_here; (with_reducible show wpAny _ _ (getMethod _ (Str.ofString "sub") _) _ _ _); k_dflt (refine' getM ?zqF ?zqX ?zql slot_sub type_sub ?_; (case zqF => k_asm); (case zqX => k_asm); (case zql => k_is)))
  k_with "getMethod ref" => (k_here; (with_reducible show wpAny _ _ (getMethod _ (Str.ofString "match") _) _ _ _); k_dflt (refine' getM ?zqF ?zqX ?zql slot_match type_match ?_; (case zqF => k_asm); (case zqX => k_asm); (case zql => k_is)))
  k_with "callWith ref" => (k_here; k_dflt (refine' callWith_K ?zqk1 ?zqk2 ?_; (case zqk1 => k_asm); (case zqk2 => k_is); k_whole))
  k_with "call builtin:list.append" => (k_here; k_dflt (refine' append_T ?zqF ?zqN ?zql ?zqz ?_; (case zqF => k_asm); (case zqN => k_asm); (case zql => assumption); (case zqz => assumption)); intro h' F' N'; (try k_sweep))
  k_with "getMethod ref" => (k_here; (with_reducible show wpAny _ _ (getMethod _ (Str.ofString "group") _) _ _ _); k_dflt (refine' getMm ?zqN ?zqm ?_; (case zqN => k_asm); (case zqm => k_mem)))
  k_with "call builtin:re.Match.group" => (k_here; k_dflt (refine' group_E ?zqz ?zqN ?zqm ?zqn ?_; (case zqN => k_asm); (case zqm => k_mem); (case zqn => k_mem); (case zqz => omega)); intro tk')
  k_with "truthy str" => (k_here; refine truthy_c (by simp [Array.size_extract]; omega) ?_)
  k_with "binaryOp Add str str" => (k_here; refine add_c (by simp [Array.size_extract, lit_nil]; omega) ?_; intro ta' tka')
  k_with "MINE lam" => (refine' kla_code ?zqk1 ?zqk2 ?zqk3 ?zqk4 ?zqk5 ?zqkA ?zqkF ?zqkK ?zqk6 ?zqk7 ?zqk8 ?zqk9 ?zqkB ?_ ?zqc2 ?zqc3 ?zqc4 ?zqc5; (case zqkA => exact rfl); (case zqkF => exact rfl); (case zqkK => exact rfl); (case zqk1 => k_asm); (case zqk2 => k_asm); (case zqk3 => k_asm); (case zqk4 => k_asm); (case zqk5 => k_asm); (case zqk6 => k_mem); (case zqk7 => exact codeRec_news (by k_asm) (by k_mem) (by assumption) (by assumption)); (case zqk8 => ktr_room); (case zqk9 => exact rfl); (case zqc5 => decide); (case zqkB => exact locs rfl); (case zqc2 => exact rfl); (case zqc3 => exact rfl); (case zqc4 => exact rfl); k_whole; intro g' L' h' FG' F' N' B' X' T'; (try dsimp only); (try k_lift B'); (try k_fold))
  k_with "compareOp NotIn str str" => (k_here; first | refine notin_c _ (in_ws _) ?_ | refine notin_c _ (in_bt _) ?_ | refine notin_c _ (in_nr _) ?_ | refine notin_c _ (in_bad _) ?_ | refine notin_c _ (in_punct _) ?_)
  k_with "ite" => (first | (with_reducible refine ite_ff9 ?_) | (with_reducible refine ite_tt9 ?_))
  exact True.intro
set_option maxRecDepth 100000 in
set_option maxHeartbeats 8000000 in
theorem skip_spec {w : World} {p : Program} {loose : List Str} {mean : ExcName → Option Value} {mg mb : Str → Option Value} {src : Str} {st pt : Tok} {pos : Nat} {us : List U} {mx : Value}
   (hA : At src pos us) (hsz : src.cps.size < 100) (hal : Alpha src) (hmx : ∃ t, mx = .int (src.cps.size : Nat) t) :
   SpecOf w p loose mean mg mb 121 1 [.str src st, .int pos pt, mx] (fun tl r => tl = [] ∧ ∃ (n : Nat) (t : Tok), r = .int n t ∧ At src n (dropWs us) ∧ pos ≤ n) := by
  unfold SpecOf
  k_fill
  intro dp un gd cn cs a ccd cl outer A₀ base h₀ L m news s Q E B F X N T hk hd hu hret
  obtain ⟨mt, rfl⟩ := hmx
  all_goals (
    refine wpAny_call ?_
    k_dflt walk_at "MINE enter"
    k_steps)
  all_goals (
    refine stop ?_
    rename Fr _ _ _ _ => F1
    rename News _ _ _ _ => N1
    refine ksw_abs (σ := Nat × Tok × List U) (fun _ => news) (fun c => [("pos", .int c.1 c.2.1)]) [] (fun c => At src c.1 c.2.2 ∧ dropWs c.2.2 = dropWs us ∧ pos ≤ c.1) (fun c => src.cps.size - c.1) (pos, pt, us) F1 N1 (by kst_all) ⟨hA, rfl, Nat.le_refl _⟩ ?_
    rintro R9 ⟨k, t, us'⟩ u h tk hR9 ⟨ha, hb, hc⟩ F2 N2
    dsimp only at ha hb hc F2
    try k_fold
    k_steps)
  all_goals (first
    | (refine hR9 _ _ ?_
       dsimp only [KswPost]
       obtain ⟨r, rfl, ha'⟩ := ha.one (by omega) (by intro h1; omega)
       rename News _ _ _ _ => nE'
       refine ksw_end ⟨k + 1, _, r⟩ (by assumption) nE' (fun _ h => h) trivial (by kst_all) (by walk_at "MINE same") ⟨ha', ?_, by dsimp only; omega⟩ (by dsimp only; omega)
       have hal' := hal k (by omega)
       dsimp only
       rw [← hb, dropWs_cons_ws]
       exact ws_of hal' (by assumption))
    | (refine hret _ [] _ _ (by assumption) (by assumption) (fun _ _ _ h => nomatch h) ⟨rfl, k, t, rfl, ?_, hc⟩
       rw [← hb, ha.dropWs_self]
       · exact ha
       · intro hk; omega))

theorem words_s_unesc_1 : True := by
  k_with_none
  w_top off
  k_with "MINE ar" => (with_reducible first | assumption | decide | ((show @LT.lt Nat _ _ _); first | exact ar_n1 (by assumption) | exact ar_n2 (by assumption) | exact ar_n6 (by assumption) | exact ar_n12 (by assumption) | exact ar_n13 (by assumption) | exact ar_k1 (by assumption) | exact ar_k2 (by assumption) | exact ar_k3 (by assumption) | exact ar_k4 (by assumption) | exact ar_k8 (by assumption) | exact ar_m1 (by assumption) | exact ar_m2 (by assumption) | exact ar_m3 (by assumption) | exact ar_m4 (by assumption) | exact ar_m5 (by assumption) | exact ar_e4 (by assumption) | exact ar_e5 (by assumption) | exact ar_r1 (by assumption) | exact Nat.lt_succ_self _ | exact ar_r2 (by assumption) (by decide) | exact ar_r3 (by assumption) (by decide) | exact ar_n7 (by assumption) (by assumption) | exact ar_n8 (by assumption) (by assumption) | exact ar_n16 (by assumption) (by assumption) | exact ar_n20 (by assumption) (by assumption) | exact ar_n21 (by assumption) (by assumption) | exact ar_n23 (by assumption) (by assumption) | exact ar_n24 (by assumption) (by assumption) | exact ar_e17 (by assumption) (by assumption) | exact ar_e19 (by assumption) (by assumption) | exact ar_n14 (by assumption) (by assumption) (by assumption) | exact ar_n26 (by assumption) (by assumption) (by assumption) | exact ar_n27 (by assumption) (by assumption) (by assumption) | exact ar_n15 (by assumption) (by assumption) (by assumption) (by assumption) | exact ar_n22 (by assumption) (by assumption) (by assumption) (by assumption)) | ((show @LE.le Nat _ _ _); first | exact Nat.le_refl _ | exact Nat.le_add_right _ _ | exact ar_n3 (by assumption) | exact ar_n4 (by assumption) | exact ar_n5 (by assumption) | exact ar_k7 (by assumption) | exact ar_k10 (by assumption) | exact ar_k13 (by assumption) | exact ar_e1 (by assumption) | exact ar_e2 (by assumption) | exact ar_e3 (by assumption) | exact ar_e6 (by assumption) | exact ar_e7 (by assumption) | exact ar_e8 (by assumption) | exact ar_s1 (by assumption) | exact ar_w2 (by assumption) | exact ar_n25 (by assumption) | exact ar_n9 (by assumption) (by assumption) | exact ar_n17 (by assumption) (by assumption) | exact ar_n28 (by assumption) (by assumption) | exact ar_e9 (by assumption) (by assumption) | exact ar_e10 (by assumption) (by assumption) | exact ar_e18 (by assumption) (by assumption) | exact ar_s3 (by assumption) (by assumption) | exact ar_n10 (by assumption) (by assumption) (by assumption) | exact ar_n11 (by assumption) (by assumption) (by assumption)) | ((show @LT.lt Int _ _ _); first | exact ar_k9 (by assumption) | exact ar_n18 (by assumption) | exact ar_n19 (by assumption) (by assumption)) | ((show @LE.le Int _ _ _); first | exact Int.natCast_nonneg _) | ((show @Eq Nat _ _); first | exact ar_e11 (by assumption) | exact ar_e12 (by assumption) | exact ar_e13 (by assumption) | exact ar_e15 (by assumption) | exact ar_s2 (by assumption) | exact ar_s4 (by assumption) | exact ar_w6 (by assumption) (by assumption) | exact ar_nn (by assumption)) | ((show @Eq Int _ _); first | exact ar_i5 | exact ar_i6 | exact ar_i7 | exact ar_i8 (by assumption)) | ((show ¬ _); first | exact ar_k5 (by assumption) | exact ar_k6 (by assumption) | exact ar_k11 (by assumption) | exact ar_k12 (by assumption) | exact ar_k14 (by assumption) | exact ar_e14 (by assumption) | exact ar_e16 (by assumption) | exact ar_e20 (by assumption) | exact ar_q1 (by assumption) | exact ar_q2 (by assumption) | exact ar_q3 (by assumption) | exact ar_q4 (by assumption) | exact ar_q5 (by assumption) | exact ar_w7 (by assumption) | exact ar_w8 (by assumption) | exact ar_w14 (by assumption) | exact ar_w16 (by assumption) | exact ar_w18 (by assumption) | exact ar_w19 (by assumption) | exact ar_w20 (by assumption) | exact ar_o3 (by assumption) | exact ar_o4 (by assumption) | exact ar_d (by assumption) (by decide) | exact ar_l1 (by assumption) (by assumption) | exact ar_l2 (by assumption) (by assumption) | exact ar_l3 (by assumption) (by assumption) | exact ar_w17 (by assumption) (by assumption) | exact ar_lv (by assumption) (by assumption) (by assumption) | exact ar_nn2 (by assumption)) | ((show _ ∧ _); first | exact ar_w1 (by assumption) | exact ar_w10 (by assumption) | exact ar_w12 (by assumption) | exact ar_w13 (by assumption) | exact ar_o2 (by assumption) | exact ar_w4 (by assumption) (by assumption) | exact ar_i4 (by assumption) (by assumption)) | ((show _ ∨ _); first | exact ar_o1 (by assumption) | exact ar_w3 (by assumption) (by assumption) | exact ar_w5 (by assumption) (by assumption) | exact ar_w9 (by assumption) (by assumption) | exact ar_w11 (by assumption) (by assumption)) | ((show _ ↔ _); first | exact ar_z3 | exact ar_z4 | exact ar_z5) | ((show False); first | exact (ar_f1 (by assumption) (by assumption) (by assumption)).elim | exact (ar_f2 (by assumption) (by assumption) (by assumption)).elim | exact (ar_c1 (by assumption) (by assumption)).elim | exact (ar_c2 (by assumption) (by assumption)).elim | exact (ar_c3 (by assumption) (by assumption)).elim | exact (ar_c4 (by assumption) (by assumption)).elim | exact (ar_c5 (by assumption) (by assumption)).elim | exact (ar_c7 (by assumption) (by assumption)).elim | exact (ar_c8 (by assumption) (by assumption)).elim | exact (ar_c9 (by assumption) (by assumption)).elim | exact (ar_c10 (by assumption) (by assumption)).elim | exact (ar_c11 (by assumption) (by assumption)).elim | exact (ar_c12 (by assumption) (by assumption)).elim | exact (ar_c13 (by assumption) (by assumption)).elim | exact (ar_f3 (by assumption) (by assumption)).elim | exact (ar_f4 (by assumption) (by assumption)).elim | exact (ar_f5 (by assumption) (by assumption)).elim | exact (ar_f6 (by assumption) (by assumption)).elim | exact (ar_f7 (by assumption) (by assumption)).elim | exact (ar_f8 (by assumption) (by assumption)).elim | exact (ar_f9 (by assumption) (by assumption)).elim | exact (ar_f10 (by assumption) (by assumption)).elim) | ((show @Eq _ _ _); first | exact (ar_f1 (by assumption) (by assumption) (by assumption)).elim | exact (ar_f2 (by assumption) (by assumption) (by assumption)).elim | exact (ar_c1 (by assumption) (by assumption)).elim | exact (ar_c2 (by assumption) (by assumption)).elim | exact (ar_c3 (by assumption) (by assumption)).elim | exact (ar_c4 (by assumption) (by assumption)).elim | exact (ar_c5 (by assumption) (by assumption)).elim | exact (ar_c7 (by assumption) (by assumption)).elim | exact (ar_c8 (by assumption) (by assumption)).elim | exact (ar_c9 (by assumption) (by assumption)).elim | exact (ar_c10 (by assumption) (by assumption)).elim | exact (ar_c11 (by assumption) (by assumption)).elim | exact (ar_c12 (by assumption) (by assumption)).elim | exact (ar_c13 (by assumption) (by assumption)).elim | exact (ar_f3 (by assumption) (by assumption)).elim | exact (ar_f4 (by assumption) (by assumption)).elim | exact (ar_f5 (by assumption) (by assumption)).elim | exact (ar_f6 (by assumption) (by assumption)).elim | exact (ar_f7 (by assumption) (by assumption)).elim | exact (ar_f8 (by assumption) (by assumption)).elim | exact (ar_f9 (by assumption) (by assumption)).elim | exact (ar_f10 (by assumption) (by assumption)).elim) | (intro _; first | exact (ar_f1 (by assumption) (by assumption) (by assumption)).elim | exact (ar_f2 (by assumption) (by assumption) (by assumption)).elim | exact (ar_c1 (by assumption) (by assumption)).elim | exact (ar_c2 (by assumption) (by assumption)).elim | exact (ar_c3 (by assumption) (by assumption)).elim | exact (ar_c4 (by assumption) (by assumption)).elim | exact (ar_c5 (by assumption) (by assumption)).elim | exact (ar_c7 (by assumption) (by assumption)).elim | exact (ar_c8 (by assumption) (by assumption)).elim | exact (ar_c9 (by assumption) (by assumption)).elim | exact (ar_c10 (by assumption) (by assumption)).elim | exact (ar_c11 (by assumption) (by assumption)).elim | exact (ar_c12 (by assumption) (by assumption)).elim | exact (ar_c13 (by assumption) (by assumption)).elim | exact (ar_f3 (by assumption) (by assumption)).elim | exact (ar_f4 (by assumption) (by assumption)).elim | exact (ar_f5 (by assumption) (by assumption)).elim | exact (ar_f6 (by assumption) (by assumption)).elim | exact (ar_f7 (by assumption) (by assumption)).elim | exact (ar_f8 (by assumption) (by assumption)).elim | exact (ar_f9 (by assumption) (by assumption)).elim | exact (ar_f10 (by assumption) (by assumption)).elim) | exact ar_i1 (by assumption) | exact ar_i2 (by assumption) | exact ar_i3 (by assumption) (by decide))
  k_with "MINE enter" => (refine' code_def ?zqk1 ?zqk2 ?zqk3 ?zqk4 ?zqk5 ?zqkA ?zqkF ?zqkK ?zqk6 ?zqk7 ?zqk8 ?zqk9 ?zqkB ?_ ?zqc2 ?zqc3 ?zqc4 ?zqc5; (case zqkA => exact rfl); (case zqkF => exact rfl); (case zqkK => assumption); (case zqk1 => k_asm); (case zqk2 => k_asm); (case zqk3 => k_asm); (case zqk4 => k_asm); (case zqk5 => k_asm); (case zqk6 => k_is); (case zqk7 => k_is); (case zqk8 => ktr_room); (case zqk9 => first | exact BindsTo.of_eq rfl | exact binds_K (by k_in) rfl (by k_is) rfl rfl rfl); (case zqc5 => decide); (case zqkB => exact locs rfl); (case zqc2 => exact rfl); (case zqc3 => exact rfl); (case zqc4 => exact rfl); k_whole; intro g' L' h' FG' F' N' B' X' T'; (try dsimp only); (try k_lift B'); (try k_fold))
  k_with "exec While BoolOp cons nil" => (refine stop ?_)
  k_with "exec While Compare cons nil" => (refine stop ?_)
  k_with "MINE same" => (intro z h2 h3; simp only [List.forall_mem_cons, List.not_mem_nil, false_implies, implies_true, and_true, ne_eq] at h2; (try simp only [List.contains_cons, List.contains_nil, Bool.or_false, Bool.or_eq_false_iff, beq_eq_false_iff_ne, ne_eq] at h3); simp [kstB, h2, h3])
  k_with "KswPost" => (refine stop ?_)
  k_with "subscriptTail Name Name str int" => (k_here; (with_unfolding_all refine' item_a ?zqk0 ?zqk1 ?zqk2 ?zqk3 ?_; (case zqk0 => assumption); (case zqk1 => first | rfl | exact Int.natCast_add _ _ | omega); (case zqk2 => omega); (case zqk3 => omega)); intro hItem')
  k_with "subscriptTail Name BinOp str int" => (k_here; (with_unfolding_all refine' item_a (n := _ + 1) ?zqk0 ?zqk1 ?zqk2 ?zqk3 ?_; (case zqk0 => assumption); (case zqk1 => rfl); (case zqk2 => omega); (case zqk3 => omega)); intro hItem')
  k_with "compareOp Eq str str" => (k_here; first | refine eq_c lit_lt ?_ | refine eq_c lit_gt ?_ | refine eq_c lit_bs ?_ | refine eq_c lit_lp ?_ | refine eq_c lit_rp ?_ | refine eq_c lit_nl ?_ | refine eq_c lit_cr ?_ | refine eq_c lit_del ?_ | refine eq_c lit_nul ?_ | refine eq_c lit_blank ?_)
  k_with "compareOp In str str" => (k_here; first | refine in_c _ (in_ws _) ?_ | refine in_c _ (in_bt _) ?_ | refine in_c _ (in_nr _) ?_ | refine in_c _ (in_bad _) ?_ | refine in_c _ (in_punct _) ?_)
  k_with "call builtin:len" => (k_here; (with_reducible show wpAny _ _ (call (Value.builtin "len") [Value.str _ _]) _ _ _); refine len_c (by omega) ?_)
  k_with "call ref" => (k_here; (with_reducible show wpAny _ _ (call (Value.ref _) _ _) _ _ _); refine stop ?_)
  k_with "MINE room" => ((case B => k_asm); (case F => k_asm); (case X => k_asm); (case N => k_asm); (case T => k_asm); (case hk => first | exact rfl | assumption); (case hd => ktr_room); (case hu => ktr_units))
  k_with "getMethod ref" => (k_here; (with_reducible show wpAny _ _ (getMethod _ (Str.ofString "sub") _) _ _ _); k_dflt (refine' getM ?zqF ?zqX ?zql slot_sub type_sub ?_; (case zqF => k_asm); (case zqX => k_asm); (case zql => k_is)))
  k_with "getMethod ref" => (k_here; (with_reducible show wpAny _ _ (getMethod _ (Str.ofString "match") _) _ _ _); k_dflt (refine' getM ?zqF ?zqX ?zql slot_match type_match ?_; (case zqF => k_asm); (case zqX => k_asm); (case zql => k_is)))
  k_with "callWith ref" => (k_here; k_dflt (refine' callWith_K ?zqk1 ?zqk2 ?_; (case zqk1 => k_asm); (case zqk2 => k_is); k_whole))
  k_with "call builtin:list.append" => (k_here; k_dflt (refine' append_T ?zqF ?zqN ?zql ?zqz ?_; (case zqF => k_asm); (case zqN => k_asm); (case zql => assumption); (case zqz => assumption)); intro h' F' N'; (try k_sweep))
  k_with "getMethod ref" => (k_here; (with_reducible show wpAny _ _ (getMethod _ (Str.ofString "group") _) _ _ _); k_dflt (refine' getMm ?zqN ?zqm ?_; (case zqN => k_asm); (case zqm => k_mem)))
  k_with "call builtin:re.Match.group" => (k_here; k_dflt (refine' group_E ?zqz ?zqN ?zqm ?zqn ?_; (case zqN => k_asm); (case zqm => k_mem); (case zqn => k_mem); (case zqz => omega)); intro tk')
  k_with "truthy str" => (k_here; refine truthy_c (by simp [Array.size_extract]; omega) ?_)
  k_with "binaryOp Add str str" => (k_here; refine add_c (by simp [Array.size_extract, lit_nil]; omega) ?_; intro ta' tka')
  k_with "MINE lam" => (refine' kla_code ?zqk1 ?zqk2 ?zqk3 ?zqk4 ?zqk5 ?zqkA ?zqkF ?zqkK ?zqk6 ?zqk7 ?zqk8 ?zqk9 ?zqkB ?_ ?zqc2 ?zqc3 ?zqc4 ?zqc5; (case zqkA => exact rfl); (case zqkF => exact rfl); (case zqkK => exact rfl); (case zqk1 => k_asm); (case zqk2 => k_asm); (case zqk3 => k_asm); (case zqk4 => k_asm); (case zqk5 => k_asm); (case zqk6 => k_mem); (case zqk7 => exact codeRec_news (by k_asm) (by k_mem) (by assumption) (by assumption)); (case zqk8 => ktr_room); (case zqk9 => exact rfl); (case zqc5 => decide); (case zqkB => exact locs rfl); (case zqc2 => exact rfl); (case zqc3 => exact rfl); (case zqc4 => exact rfl); k_whole; intro g' L' h' FG' F' N' B' X' T'; (try dsimp only); (try k_lift B'); (try k_fold))
  k_with "compareOp NotIn str str" => (k_here; first | refine notin_c _ (in_ws _) ?_ | refine notin_c _ (in_bt _) ?_ | refine notin_c _ (in_nr _) ?_ | refine notin_c _ (in_bad _) ?_ | refine notin_c _ (in_punct _) ?_)
  k_with "ite" => (first | (with_reducible refine ite_ff9 ?_) | (with_reducible refine ite_tt9 ?_))
  exact True.intro
set_option maxHeartbeats 8000000 in
theorem unesc_spec {w : World} {p : Program} {loose : List Str} {mean : ExcName → Option Value} {mg mb : Str → Option Value} {x : Str} {st : Tok} {us : List U} (hx : Alpha x) (hsz : x.cps.size < 100) (hA : At x 0 us) :
    SpecT w p loose mean mg mb 81 2 [.str x st] (fun tl r => tl = [] ∧ ∃ t, r = .str ⟨(plain us).toArray⟩ t) := by
  unfold SpecT
  k_fill
  intro dp un gd cn cs a ccd cl outer A₀ base h₀ L m news T s Q E B F X N Tt hk hd hu hC hT h76 hret
  rcases hT with rfl | ⟨c₀, oc₀, vs₀, t₀, rfl, hc76, hoc₀, hvs₀⟩
  · have N0 : News h₀ L s.heap ((76, tabObj #[]) :: news) := fun q hq => N q (by rcases List.mem_cons.mp hq with h | h <;> simp [h])
    clear N
    refine wpAny_call ?_
    k_dflt walk_at "MINE enter"
    k_steps
    rename Fr _ _ _ _ => F1
    rename News _ _ _ _ => N1
    rename Frag.In _ _ => X1
    have hp0 := IsPat.of (a := 69) (groups := 1) (code := codeE) X1 (by k_is) (by k_is) (by decide +kernel)
    refine sub_call hx hsz (fun h F => hp0.keeps (Fr.keep F)) hA ?_ (.head _) F1 N1 ?_
    · unfold LamSpec
      intro a2 b2 p2 s2 news2 Q2 E2 F2 N2 hsub ha2 hb2 hret2
      have m1 := hsub _ (.head _)
      have m2 := hsub _ (.tail _ (.head _))
      refine wpAny_call ?_
      k_dflt walk_at "MINE lam"
      k_steps
      · rw [show ((Str.ofString "").cps ++ x.cps.extract (p2 + 1) (p2 + 2)) = x.cps.extract (p2 + 1) (p2 + 2) from by rw [lit_nil]; simp]
        exact hret2 _ _ _ (by assumption) (by assumption)
      · rename ¬ 0 < _ => hz
        have hz2 : x.cps.extract (p2 + 1) (p2 + 2) = #[] := Array.eq_empty_of_size_eq_zero (Nat.eq_zero_of_not_pos hz)
        rw [hz2] at hret2
        exact hret2 _ _ _ (by assumption) (by assumption)
    · intro t h' tk' F' N'
      k_steps
      rename News h₀ L _ _ => N9
      rename (_ ∧ AllLt _ _) => l9
      rename (_ = Data.fields _) => e1
      rename (_ = some (Value.str _ _)) => e2
      refine hret _ [] _ _ _ (by assumption) (fun q hq => N9 q ?_) (tabBlock_mk l9 e1 e2) (fun _ _ _ h => nomatch h) (fun _ h => nomatch h) ⟨rfl, _, rfl⟩
      simp only [List.nil_append, List.mem_append, List.mem_cons, List.not_mem_nil, or_false] at hq
      rcases hq with h | rfl | rfl
      · exact .tail _ (.tail _ (.tail _ h))
      · exact .tail _ (.tail _ (.head _))
      · exact .tail _ (.head _)
  · have N0 : News h₀ L s.heap ((76, tabObj #[rawInt 35, rawInt 31, .ref c₀]) :: (c₀, oc₀) :: news) := fun q hq => N q (by simp only [List.mem_append, List.mem_cons, List.not_mem_nil, or_false] at hq ⊢; rcases hq with h | h | h <;> simp [h])
    clear N
    refine wpAny_call ?_
    k_dflt walk_at "MINE enter"
    k_steps
    rename Fr _ _ _ _ => F1
    rename News _ _ _ _ => N1
    rename Frag.In _ _ => X1
    have hp0 := IsPat.of (a := 69) (groups := 1) (code := codeE) X1 (by k_is) (by k_is) (by decide +kernel)
    refine sub_call hx hsz (fun h F => hp0.keeps (Fr.keep F)) hA ?_ (.head _) F1 N1 ?_
    · unfold LamSpec
      intro a2 b2 p2 s2 news2 Q2 E2 F2 N2 hsub ha2 hb2 hret2
      have m1 := hsub _ (.head _)
      have m2 := hsub _ (.tail _ (.tail _ (.head _)))
      refine wpAny_call ?_
      k_dflt walk_at "MINE lam"
      k_steps
      · rw [show ((Str.ofString "").cps ++ x.cps.extract (p2 + 1) (p2 + 2)) = x.cps.extract (p2 + 1) (p2 + 2) from by rw [lit_nil]; simp]
        exact hret2 _ _ _ (by assumption) (by assumption)
      · rename ¬ 0 < _ => hz
        have hz2 : x.cps.extract (p2 + 1) (p2 + 2) = #[] := Array.eq_empty_of_size_eq_zero (Nat.eq_zero_of_not_pos hz)
        rw [hz2] at hret2
        exact hret2 _ _ _ (by assumption) (by assumption)
    · intro t h' tk' F' N'
      k_steps
      rename News h₀ L _ _ => N9
      refine hret _ [] _ _ _ (by assumption) (fun q hq => N9 q ?_) (.inr ⟨c₀, oc₀, vs₀, t₀, rfl, hc76, hoc₀, hvs₀⟩) (fun _ _ _ h => nomatch h) (fun _ h => nomatch h) ⟨rfl, _, rfl⟩
      simp only [List.nil_append, List.mem_append, List.mem_cons, List.not_mem_nil, or_false] at hq
      rcases hq with h | rfl | rfl
      · exact .tail _ (.tail _ (.tail _ h))
      · exact .tail _ (.head _)
      · exact .tail _ (.tail _ (.head _))

theorem words_s_start_1 : True := by
  k_with_none
  w_top off
  k_with "MINE ar" => (with_reducible first | assumption | decide | ((show @LT.lt Nat _ _ _); first | exact ar_n1 (by assumption) | exact ar_n2 (by assumption) | exact ar_n6 (by assumption) | exact ar_n12 (by assumption) | exact ar_n13 (by assumption) | exact ar_k1 (by assumption) | exact ar_k2 (by assumption) | exact ar_k3 (by assumption) | exact ar_k4 (by assumption) | exact ar_k8 (by assumption) | exact ar_m1 (by assumption) | exact ar_m2 (by assumption) | exact ar_m3 (by assumption) | exact ar_m4 (by assumption) | exact ar_m5 (by assumption) | exact ar_e4 (by assumption) | exact ar_e5 (by assumption) | exact ar_r1 (by assumption) | exact Nat.lt_succ_self _ | exact ar_r2 (by assumption) (by decide) | exact ar_r3 (by assumption) (by decide) | exact ar_n7 (by assumption) (by assumption) | exact ar_n8 (by assumption) (by assumption) | exact ar_n16 (by assumption) (by assumption) | exact ar_n20 (by assumption) (by assumption) | exact ar_n21 (by assumption) (by assumption) | exact ar_n23 (by assumption) (by assumption) | exact ar_n24 (by assumption) (by assumption) | exact ar_e17 (by assumption) (by assumption) | exact ar_e19 (by assumption) (by assumption) | exact ar_n14 (by assumption) (by assumption) (by assumption) | exact ar_n26 (by assumption) (by assumption) (by assumption) | exact ar_n27 (by assumption) (by assumption) (by assumption) | exact ar_n15 (by assumption) (by assumption) (by assumption) (by assumption) | exact ar_n22 (by assumption) (by assumption) (by assumption) (by assumption)) | ((show @LE.le Nat _ _ _); first | exact Nat.le_refl _ | exact Nat.le_add_right _ _ | exact ar_n3 (by assumption) | exact ar_n4 (by assumption) | exact ar_n5 (by assumption) | exact ar_k7 (by assumption) | exact ar_k10 (by assumption) | exact ar_k13 (by assumption) | exact ar_e1 (by assumption) | exact ar_e2 (by assumption) | exact ar_e3 (by assumption) | exact ar_e6 (by assumption) | exact ar_e7 (by assumption) | exact ar_e8 (by assumption) | exact ar_s1 (by assumption) | exact ar_w2 (by assumption) | exact ar_n25 (by assumption) | exact ar_n9 (by assumption) (by assumption) | exact ar_n17 (by assumption) (by assumption) | exact ar_n28 (by assumption) (by assumption) | exact ar_e9 (by assumption) (by assumption) | exact ar_e10 (by assumption) (by assumption) | exact ar_e18 (by assumption) (by assumption) | exact ar_s3 (by assumption) (by assumption) | exact ar_n10 (by assumption) (by assumption) (by assumption) | exact ar_n11 (by assumption) (by assumption) (by assumption)) | ((show @LT.lt Int _ _ _); first | exact ar_k9 (by assumption) | exact ar_n18 (by assumption) | exact ar_n19 (by assumption) (by assumption)) | ((show @LE.le Int _ _ _); first | exact Int.natCast_nonneg _) | ((show @Eq Nat _ _); first | exact ar_e11 (by assumption) | exact ar_e12 (by assumption) | exact ar_e13 (by assumption) | exact ar_e15 (by assumption) | exact ar_s2 (by assumption) | exact ar_s4 (by assumption) | exact ar_w6 (by assumption) (by assumption) | exact ar_nn (by assumption)) | ((show @Eq Int _ _); first | exact ar_i5 | exact ar_i6 | exact ar_i7 | exact ar_i8 (by assumption)) | ((show ¬ _); first | exact ar_k5 (by assumption) | exact ar_k6 (by assumption) | exact ar_k11 (by assumption) | exact ar_k12 (by assumption) | exact ar_k14 (by assumption) | exact ar_e14 (by assumption) | exact ar_e16 (by assumption) | exact ar_e20 (by assumption) | exact ar_q1 (by assumption) | exact ar_q2 (by assumption) | exact ar_q3 (by assumption) | exact ar_q4 (by assumption) | exact ar_q5 (by assumption) | exact ar_w7 (by assumption) | exact ar_w8 (by assumption) | exact ar_w14 (by assumption) | exact ar_w16 (by assumption) | exact ar_w18 (by assumption) | exact ar_w19 (by assumption) | exact ar_w20 (by assumption) | exact ar_o3 (by assumption) | exact ar_o4 (by assumption) | exact ar_d (by assumption) (by decide) | exact ar_l1 (by assumption) (by assumption) | exact ar_l2 (by assumption) (by assumption) | exact ar_l3 (by assumption) (by assumption) | exact ar_w17 (by assumption) (by assumption) | exact ar_lv (by assumption) (by assumption) (by assumption) | exact ar_nn2 (by assumption)) | ((show _ ∧ _); first | exact ar_w1 (by assumption) | exact ar_w10 (by assumption) | exact ar_w12 (by assumption) | exact ar_w13 (by assumption) | exact ar_o2 (by assumption) | exact ar_w4 (by assumption) (by assumption) | exact ar_i4 (by assumption) (by assumption)) | ((show _ ∨ _); first | exact ar_o1 (by assumption) | exact ar_w3 (by assumption) (by assumption) | exact ar_w5 (by assumption) (by assumption) | exact ar_w9 (by assumption) (by assumption) | exact ar_w11 (by assumption) (by assumption)) | ((show _ ↔ _); first | exact ar_z3 | exact ar_z4 | exact ar_z5) | ((show False); first | exact (ar_f1 (by assumption) (by assumption) (by assumption)).elim | exact (ar_f2 (by assumption) (by assumption) (by assumption)).elim | exact (ar_c1 (by assumption) (by assumption)).elim | exact (ar_c2 (by assumption) (by assumption)).elim | exact (ar_c3 (by assumption) (by assumption)).elim | exact (ar_c4 (by assumption) (by assumption)).elim | exact (ar_c5 (by assumption) (by assumption)).elim | exact (ar_c7 (by assumption) (by assumption)).elim | exact (ar_c8 (by assumption) (by assumption)).elim | exact (ar_c9 (by assumption) (by assumption)).elim | exact (ar_c10 (by assumption) (by assumption)).elim | exact (ar_c11 (by assumption) (by assumption)).elim | exact (ar_c12 (by assumption) (by assumption)).elim | exact (ar_c13 (by assumption) (by assumption)).elim | exact (ar_f3 (by assumption) (by assumption)).elim | exact (ar_f4 (by assumption) (by assumption)).elim | exact (ar_f5 (by assumption) (by assumption)).elim | exact (ar_f6 (by assumption) (by assumption)).elim | exact (ar_f7 (by assumption) (by assumption)).elim | exact (ar_f8 (by assumption) (by assumption)).elim | exact (ar_f9 (by assumption) (by assumption)).elim | exact (ar_f10 (by assumption) (by assumption)).elim) | ((show @Eq _ _ _); first | exact (ar_f1 (by assumption) (by assumption) (by assumption)).elim | exact (ar_f2 (by assumption) (by assumption) (by assumption)).elim | exact (ar_c1 (by assumption) (by assumption)).elim | exact (ar_c2 (by assumption) (by assumption)).elim | exact (ar_c3 (by assumption) (by assumption)).elim | exact (ar_c4 (by assumption) (by assumption)).elim | exact (ar_c5 (by assumption) (by assumption)).elim | exact (ar_c7 (by assumption) (by assumption)).elim | exact (ar_c8 (by assumption) (by assumption)).elim | exact (ar_c9 (by assumption) (by assumption)).elim | exact (ar_c10 (by assumption) (by assumption)).elim | exact (ar_c11 (by assumption) (by assumption)).elim | exact (ar_c12 (by assumption) (by assumption)).elim | exact (ar_c13 (by assumption) (by assumption)).elim | exact (ar_f3 (by assumption) (by assumption)).elim | exact (ar_f4 (by assumption) (by assumption)).elim | exact (ar_f5 (by assumption) (by assumption)).elim | exact (ar_f6 (by assumption) (by assumption)).elim | exact (ar_f7 (by assumption) (by assumption)).elim | exact (ar_f8 (by assumption) (by assumption)).elim | exact (ar_f9 (by assumption) (by assumption)).elim | exact (ar_f10 (by assumption) (by assumption)).elim) | (intro _; first | exact (ar_f1 (by assumption) (by assumption) (by assumption)).elim | exact (ar_f2 (by assumption) (by assumption) (by assumption)).elim | exact (ar_c1 (by assumption) (by assumption)).elim | exact (ar_c2 (by assumption) (by assumption)).elim | exact (ar_c3 (by assumption) (by assumption)).elim | exact (ar_c4 (by assumption) (by assumption)).elim | exact (ar_c5 (by assumption) (by assumption)).elim | exact (ar_c7 (by assumption) (by assumption)).elim | exact (ar_c8 (by assumption) (by assumption)).elim | exact (ar_c9 (by assumption) (by assumption)).elim | exact (ar_c10 (by assumption) (by assumption)).elim | exact (ar_c11 (by assumption) (by assumption)).elim | exact (ar_c12 (by assumption) (by assumption)).elim | exact (ar_c13 (by assumption) (by assumption)).elim | exact (ar_f3 (by assumption) (by assumption)).elim | exact (ar_f4 (by assumption) (by assumption)).elim | exact (ar_f5 (by assumption) (by assumption)).elim | exact (ar_f6 (by assumption) (by assumption)).elim | exact (ar_f7 (by assumption) (by assumption)).elim | exact (ar_f8 (by assumption) (by assumption)).elim | exact (ar_f9 (by assumption) (by assumption)).elim | exact (ar_f10 (by assumption) (by assumption)).elim) | exact ar_i1 (by assumption) | exact ar_i2 (by assumption) | exact ar_i3 (by assumption) (by decide))
  k_with "MINE enter" => (refine' code_def ?zqk1 ?zqk2 ?zqk3 ?zqk4 ?zqk5 ?zqkA ?zqkF ?zqkK ?zqk6 ?zqk7 ?zqk8 ?zqk9 ?zqkB ?_ ?zqc2 ?zqc3 ?zqc4 ?zqc5; (case zqkA => exact rfl); (case zqkF => exact rfl); (case zqkK => assumption); (case zqk1 => k_asm); (case zqk2 => k_asm); (case zqk3 => k_asm); (case zqk4 => k_asm); (case zqk5 => k_asm); (case zqk6 => k_is); (case zqk7 => k_is); (case zqk8 => ktr_room); (case zqk9 => first | exact BindsTo.of_eq rfl | exact binds_K (by k_in) rfl (by k_is) rfl rfl rfl); (case zqc5 => decide); (case zqkB => exact locs rfl); (case zqc2 => exact rfl); (case zqc3 => exact rfl); (case zqc4 => exact rfl); k_whole; intro g' L' h' FG' F' N' B' X' T'; (try dsimp only); (try k_lift B'); (try k_fold))
  k_with "exec While BoolOp cons nil" => (refine stop ?_)
  k_with "exec While Compare cons nil" => (refine stop ?_)
  k_with "MINE same" => (intro z h2 h3; simp only [List.forall_mem_cons, List.not_mem_nil, false_implies, implies_true, and_true, ne_eq] at h2; (try simp only [List.contains_cons, List.contains_nil, Bool.or_false, Bool.or_eq_false_iff, beq_eq_false_iff_ne, ne_eq] at h3); simp [kstB, h2, h3])
  k_with "KswPost" => (refine stop ?_)
  k_with "subscriptTail Name Name str int" => (k_here; (with_unfolding_all refine' item_a ?zqk0 ?zqk1 ?zqk2 ?zqk3 ?_; (case zqk0 => assumption); (case zqk1 => first | rfl | exact Int.natCast_add _ _ | omega); (case zqk2 => omega); (case zqk3 => omega)); intro hItem')
  k_with "subscriptTail Name BinOp str int" => (k_here; (with_unfolding_all refine' item_a (n := _ + 1) ?zqk0 ?zqk1 ?zqk2 ?zqk3 ?_; (case zqk0 => assumption); (case zqk1 => rfl); (case zqk2 => omega); (case zqk3 => omega)); intro hItem')
  k_with "compareOp Eq str str" => (k_here; first | refine eq_c lit_lt ?_ | refine eq_c lit_gt ?_ | refine eq_c lit_bs ?_ | refine eq_c lit_lp ?_ | refine eq_c lit_rp ?_ | refine eq_c lit_nl ?_ | refine eq_c lit_cr ?_ | refine eq_c lit_del ?_ | refine eq_c lit_nul ?_ | refine eq_c lit_blank ?_)
  k_with "compareOp In str str" => (k_here; first | refine in_c _ (in_ws _) ?_ | refine in_c _ (in_bt _) ?_ | refine in_c _ (in_nr _) ?_ | refine in_c _ (in_bad _) ?_ | refine in_c _ (in_punct _) ?_)
  k_with "call builtin:len" => (k_here; (with_reducible show wpAny _ _ (call (Value.builtin "len") [Value.str _ _]) _ _ _); refine len_c (by omega) ?_)
  k_with "call ref" => (k_here; (with_reducible show wpAny _ _ (call (Value.ref _) _ _) _ _ _); refine stop ?_)
  k_with "MINE room" => ((case B => k_asm); (case F => k_asm); (case X => k_asm); (case N => k_asm); (case T => k_asm); (case hk => first | exact rfl | assumption); (case hd => ktr_room); (case hu => ktr_units))
  k_with "getMethod ref" => (k_here; (with_reducible show wpAny _ _ (getMethod _ (Str.ofString "sub") _) _ _ _); k_dflt (refine' getM ?zqF ?zqX ?zql slot_sub type_sub ?_; (case zqF => k_asm); (case zqX => k_asm); (case zql => k_is)))
  k_with "getMethod ref" => (k_here; (with_reducible show wpAny _ _ (getMethod _ (Str.ofString "match") _) _ _ _); k_dflt (refine' getM ?zqF ?zqX ?zql slot_match type_match ?_; (case zqF => k_asm); (case zqX => k_asm); (case zql => k_is)))
  k_with "callWith ref" => (k_here; k_dflt (refine' callWith_K ?zqk1 ?zqk2 ?_; (case zqk1 => k_asm); (case zqk2 => k_is); k_whole))
  k_with "call builtin:list.append" => (k_here; k_dflt (refine' append_T ?zqF ?zqN ?zql ?zqz ?_; (case zqF => k_asm); (case zqN => k_asm); (case zql => assumption); (case zqz => assumption)); intro h' F' N'; (try k_sweep))
  k_with "getMethod ref" => (k_here; (with_reducible show wpAny _ _ (getMethod _ (Str.ofString "group") _) _ _ _); k_dflt (refine' getMm ?zqN ?zqm ?_; (case zqN => k_asm); (case zqm => k_mem)))
  k_with "call builtin:re.Match.group" => (k_here; k_dflt (refine' group_E ?zqz ?zqN ?zqm ?zqn ?_; (case zqN => k_asm); (case zqm => k_mem); (case zqn => k_mem); (case zqz => omega)); intro tk')
  k_with "truthy str" => (k_here; refine truthy_c (by simp [Array.size_extract]; omega) ?_)
  k_with "binaryOp Add str str" => (k_here; refine add_c (by simp [Array.size_extract, lit_nil]; omega) ?_; intro ta' tka')
  k_with "MINE lam" => (refine' kla_code ?zqk1 ?zqk2 ?zqk3 ?zqk4 ?zqk5 ?zqkA ?zqkF ?zqkK ?zqk6 ?zqk7 ?zqk8 ?zqk9 ?zqkB ?_ ?zqc2 ?zqc3 ?zqc4 ?zqc5; (case zqkA => exact rfl); (case zqkF => exact rfl); (case zqkK => exact rfl); (case zqk1 => k_asm); (case zqk2 => k_asm); (case zqk3 => k_asm); (case zqk4 => k_asm); (case zqk5 => k_asm); (case zqk6 => k_mem); (case zqk7 => exact codeRec_news (by k_asm) (by k_mem) (by assumption) (by assumption)); (case zqk8 => ktr_room); (case zqk9 => exact rfl); (case zqc5 => decide); (case zqkB => exact locs rfl); (case zqc2 => exact rfl); (case zqc3 => exact rfl); (case zqc4 => exact rfl); k_whole; intro g' L' h' FG' F' N' B' X' T'; (try dsimp only); (try k_lift B'); (try k_fold))
  k_with "compareOp NotIn str str" => (k_here; first | refine notin_c _ (in_ws _) ?_ | refine notin_c _ (in_bt _) ?_ | refine notin_c _ (in_nr _) ?_ | refine notin_c _ (in_bad _) ?_ | refine notin_c _ (in_punct _) ?_)
  k_with "ite" => (first | (with_reducible refine ite_ff9 ?_) | (with_reducible refine ite_tt9 ?_))
  exact True.intro

theorem nls_cons {u : U} {r : List U} : nls (u :: r) = (if u.is 10 then 1 else 0) + nls r := rfl
set_option maxHeartbeats 8000000 in
theorem start_spec {w : World} {p : Program} {loose : List Str} {mean : ExcName → Option Value} {mg mb : Str → Option Value} {src : Str} {st pt : Tok} {pos : Nat} {us : List U}
   (hA : At src pos us) (hsz : src.cps.size < 100) (hal : Alpha src) (hnl : nls us ≤ 1) :
   SpecOf w p loose mean mg mb 128 1 [.str src st, .int pos pt] (fun tl r => tl = [] ∧ ∃ (n : Nat) (t : Tok), r = .int n t ∧ At src n (dropWs us) ∧ pos ≤ n) := by
  unfold SpecOf
  k_fill
  intro dp un gd cn cs a ccd cl outer A₀ base h₀ L m news s Q E B F X N T hk hd hu hret
  refine wpAny_call ?_
  k_dflt walk_at "MINE enter"
  k_steps
  refine unstop ?_
  rename Fr _ _ _ _ => F1
  rename News _ _ _ _ => N1
  refine ksw_abs (σ := Nat × Tok × List U) (fun _ => news) (fun c => [("pos", .int c.1 c.2.1)]) [] (fun c => At src c.1 c.2.2 ∧ dropWs c.2.2 = dropWs us ∧ pos ≤ c.1 ∧ nls c.2.2 ≤ 1) (fun c => src.cps.size - c.1) (pos, pt, us) F1 N1 (by kst_all) ⟨hA, rfl, Nat.le_refl _, hnl⟩ ?_
  rintro R9 ⟨k, t, us'⟩ u h tk hR9 ⟨ha, hb, hc, hn⟩ F2 N2
  dsimp only at ha hb hc hn F2
  try k_fold
  k_steps
  · refine hR9 _ _ ?_
    dsimp only [KswPost]
    have hk0 : k < src.cps.size := by omega
    obtain ⟨r, rfl, ha'⟩ := ha.one hk0 (by intro h1; omega)
    rename News _ _ _ _ => nE'
    have hn' : nls r ≤ 1 := by rw [nls_cons] at hn; omega
    refine ksw_end ⟨k + 1, _, r⟩ (by assumption) nE' (fun _ h => h) trivial (by kst_all) (by walk_at "MINE same") ⟨ha', ?_, by dsimp only; omega, hn'⟩ (by dsimp only; omega)
    dsimp only
    rw [← hb, dropWs_cons_ws]
    simp [U.ws]; omega
  · refine unstop ?_
    have hk0 : k < src.cps.size := by omega
    obtain ⟨r, rfl, ha'⟩ := ha.one hk0 (by intro h1; omega)
    have h10 : src.cps[k] = 10 := by omega
    have hn' : nls r = 0 := by rw [nls_cons, h10] at hn; simp [U.is] at hn; omega
    have hb' : dropWs r = dropWs us := by
      rw [← hb, dropWs_cons_ws]
      simp [U.ws]; omega
    rename Fr _ _ _ _ => F3
    rename News _ _ _ _ => N3
    refine ksw_abs (σ := Nat × Tok × List U) (fun _ => news) (fun c => [("pos", .int c.1 c.2.1)]) [] (fun c => At src c.1 c.2.2 ∧ dropWs c.2.2 = dropWs us ∧ pos ≤ c.1 ∧ nls c.2.2 = 0) (fun c => src.cps.size - c.1) (k + 1, _, r) F3 N3 (by kst_all) ⟨ha', hb', by dsimp only; omega, hn'⟩ ?_
    rintro R9 ⟨k2, t2, us2⟩ u2 h2 tk2 hR9 ⟨ha2, hb2, hc2, hn2⟩ F4 N4
    dsimp only at ha2 hb2 hc2 hn2 F4
    try k_fold
    k_steps
    · refine hR9 _ _ ?_
      dsimp only [KswPost]
      have hk0 : k2 < src.cps.size := by omega
      obtain ⟨r2, rfl, ha3⟩ := ha2.one hk0 (by intro h1; omega)
      rename News _ _ _ _ => nE'
      have hn3 : nls r2 = 0 := by rw [nls_cons] at hn2; omega
      refine ksw_end ⟨k2 + 1, _, r2⟩ (by assumption) nE' (fun _ h => h) trivial (by kst_all) (by walk_at "MINE same") ⟨ha3, ?_, by dsimp only; omega, hn3⟩ (by dsimp only; omega)
      dsimp only
      rw [← hb2, dropWs_cons_ws]
      simp [U.ws]; omega
    · refine hret _ [] _ _ (by assumption) (by assumption) (fun _ _ _ h => nomatch h) ⟨rfl, k2, t2, rfl, ?_, hc2⟩
      rw [← hb2, ha2.dropWs_self]
      · exact ha2
      · intro hk
        refine ⟨by omega, fun h10' => ?_⟩
        obtain ⟨r2, rfl, ha3⟩ := ha2.one hk (by intro h1; omega)
        rw [nls_cons, h10'] at hn2
        simp [U.is] at hn2
    · refine hret _ [] _ _ (by assumption) (by assumption) (fun _ _ _ h => nomatch h) ⟨rfl, k2, t2, rfl, ?_, hc2⟩
      rw [← hb2, ha2.dropWs_self]
      · exact ha2
      · intro hk; omega
  · refine hret _ [] _ _ (by assumption) (by assumption) (fun _ _ _ h => nomatch h) ⟨rfl, k, t, rfl, ?_, hc⟩
    rw [← hb, ha.dropWs_self]
    · exact ha
    · intro hk; omega
  · refine hret _ [] _ _ (by assumption) (by assumption) (fun _ _ _ h => nomatch h) ⟨rfl, k, t, rfl, ?_, hc⟩
    rw [← hb, ha.dropWs_self]
    · exact ha
    · intro hk; omega

theorem words_s_angle_1 : True := by
  k_with_none
  w_top off
  k_with "MINE ar" => (with_reducible first | assumption | decide | ((show @LT.lt Nat _ _ _); first | exact ar_n1 (by assumption) | exact ar_n2 (by assumption) | exact ar_n6 (by assumption) | exact ar_n12 (by assumption) | exact ar_n13 (by assumption) | exact ar_k1 (by assumption) | exact ar_k2 (by assumption) | exact ar_k3 (by assumption) | exact ar_k4 (by assumption) | exact ar_k8 (by assumption) | exact ar_m1 (by assumption) | exact ar_m2 (by assumption) | exact ar_m3 (by assumption) | exact ar_m4 (by assumption) | exact ar_m5 (by assumption) | exact ar_e4 (by assumption) | exact ar_e5 (by assumption) | exact ar_r1 (by assumption) | exact Nat.lt_succ_self _ | exact ar_r2 (by assumption) (by decide) | exact ar_r3 (by assumption) (by decide) | exact ar_n7 (by assumption) (by assumption) | exact ar_n8 (by assumption) (by assumption) | exact ar_n16 (by assumption) (by assumption) | exact ar_n20 (by assumption) (by assumption) | exact ar_n21 (by assumption) (by assumption) | exact ar_n23 (by assumption) (by assumption) | exact ar_n24 (by assumption) (by assumption) | exact ar_e17 (by assumption) (by assumption) | exact ar_e19 (by assumption) (by assumption) | exact ar_n14 (by assumption) (by assumption) (by assumption) | exact ar_n26 (by assumption) (by assumption) (by assumption) | exact ar_n27 (by assumption) (by assumption) (by assumption) | exact ar_n15 (by assumption) (by assumption) (by assumption) (by assumption) | exact ar_n22 (by assumption) (by assumption) (by assumption) (by assumption)) | ((show @LE.le Nat _ _ _); first | exact Nat.le_refl _ | exact Nat.le_add_right _ _ | exact ar_n3 (by assumption) | exact ar_n4 (by assumption) | exact ar_n5 (by assumption) | exact ar_k7 (by assumption) | exact ar_k10 (by assumption) | exact ar_k13 (by assumption) | exact ar_e1 (by assumption) | exact ar_e2 (by assumption) | exact ar_e3 (by assumption) | exact ar_e6 (by assumption) | exact ar_e7 (by assumption) | exact ar_e8 (by assumption) | exact ar_s1 (by assumption) | exact ar_w2 (by assumption) | exact ar_n25 (by assumption) | exact ar_n9 (by assumption) (by assumption) | exact ar_n17 (by assumption) (by assumption) | exact ar_n28 (by assumption) (by assumption) | exact ar_e9 (by assumption) (by assumption) | exact ar_e10 (by assumption) (by assumption) | exact ar_e18 (by assumption) (by assumption) | exact ar_s3 (by assumption) (by assumption) | exact ar_n10 (by assumption) (by assumption) (by assumption) | exact ar_n11 (by assumption) (by assumption) (by assumption)) | ((show @LT.lt Int _ _ _); first | exact ar_k9 (by assumption) | exact ar_n18 (by assumption) | exact ar_n19 (by assumption) (by assumption)) | ((show @LE.le Int _ _ _); first | exact Int.natCast_nonneg _) | ((show @Eq Nat _ _); first | exact ar_e11 (by assumption) | exact ar_e12 (by assumption) | exact ar_e13 (by assumption) | exact ar_e15 (by assumption) | exact ar_s2 (by assumption) | exact ar_s4 (by assumption) | exact ar_w6 (by assumption) (by assumption) | exact ar_nn (by assumption)) | ((show @Eq Int _ _); first | exact ar_i5 | exact ar_i6 | exact ar_i7 | exact ar_i8 (by assumption)) | ((show ¬ _); first | exact ar_k5 (by assumption) | exact ar_k6 (by assumption) | exact ar_k11 (by assumption) | exact ar_k12 (by assumption) | exact ar_k14 (by assumption) | exact ar_e14 (by assumption) | exact ar_e16 (by assumption) | exact ar_e20 (by assumption) | exact ar_q1 (by assumption) | exact ar_q2 (by assumption) | exact ar_q3 (by assumption) | exact ar_q4 (by assumption) | exact ar_q5 (by assumption) | exact ar_w7 (by assumption) | exact ar_w8 (by assumption) | exact ar_w14 (by assumption) | exact ar_w16 (by assumption) | exact ar_w18 (by assumption) | exact ar_w19 (by assumption) | exact ar_w20 (by assumption) | exact ar_o3 (by assumption) | exact ar_o4 (by assumption) | exact ar_d (by assumption) (by decide) | exact ar_l1 (by assumption) (by assumption) | exact ar_l2 (by assumption) (by assumption) | exact ar_l3 (by assumption) (by assumption) | exact ar_w17 (by assumption) (by assumption) | exact ar_lv (by assumption) (by assumption) (by assumption) | exact ar_nn2 (by assumption)) | ((show _ ∧ _); first | exact ar_w1 (by assumption) | exact ar_w10 (by assumption) | exact ar_w12 (by assumption) | exact ar_w13 (by assumption) | exact ar_o2 (by assumption) | exact ar_w4 (by assumption) (by assumption) | exact ar_i4 (by assumption) (by assumption)) | ((show _ ∨ _); first | exact ar_o1 (by assumption) | exact ar_w3 (by assumption) (by assumption) | exact ar_w5 (by assumption) (by assumption) | exact ar_w9 (by assumption) (by assumption) | exact ar_w11 (by assumption) (by assumption)) | ((show _ ↔ _); first | exact ar_z3 | exact ar_z4 | exact ar_z5) | ((show False); first | exact (ar_f1 (by assumption) (by assumption) (by assumption)).elim | exact (ar_f2 (by assumption) (by assumption) (by assumption)).elim | exact (ar_c1 (by assumption) (by assumption)).elim | exact (ar_c2 (by assumption) (by assumption)).elim | exact (ar_c3 (by assumption) (by assumption)).elim | exact (ar_c4 (by assumption) (by assumption)).elim | exact (ar_c5 (by assumption) (by assumption)).elim | exact (ar_c7 (by assumption) (by assumption)).elim | exact (ar_c8 (by assumption) (by assumption)).elim | exact (ar_c9 (by assumption) (by assumption)).elim | exact (ar_c10 (by assumption) (by assumption)).elim | exact (ar_c11 (by assumption) (by assumption)).elim | exact (ar_c12 (by assumption) (by assumption)).elim | exact (ar_c13 (by assumption) (by assumption)).elim | exact (ar_f3 (by assumption) (by assumption)).elim | exact (ar_f4 (by assumption) (by assumption)).elim | exact (ar_f5 (by assumption) (by assumption)).elim | exact (ar_f6 (by assumption) (by assumption)).elim | exact (ar_f7 (by assumption) (by assumption)).elim | exact (ar_f8 (by assumption) (by assumption)).elim | exact (ar_f9 (by assumption) (by assumption)).elim | exact (ar_f10 (by assumption) (by assumption)).elim) | ((show @Eq _ _ _); first | exact (ar_f1 (by assumption) (by assumption) (by assumption)).elim | exact (ar_f2 (by assumption) (by assumption) (by assumption)).elim | exact (ar_c1 (by assumption) (by assumption)).elim | exact (ar_c2 (by assumption) (by assumption)).elim | exact (ar_c3 (by assumption) (by assumption)).elim | exact (ar_c4 (by assumption) (by assumption)).elim | exact (ar_c5 (by assumption) (by assumption)).elim | exact (ar_c7 (by assumption) (by assumption)).elim | exact (ar_c8 (by assumption) (by assumption)).elim | exact (ar_c9 (by assumption) (by assumption)).elim | exact (ar_c10 (by assumption) (by assumption)).elim | exact (ar_c11 (by assumption) (by assumption)).elim | exact (ar_c12 (by assumption) (by assumption)).elim | exact (ar_c13 (by assumption) (by assumption)).elim | exact (ar_f3 (by assumption) (by assumption)).elim | exact (ar_f4 (by assumption) (by assumption)).elim | exact (ar_f5 (by assumption) (by assumption)).elim | exact (ar_f6 (by assumption) (by assumption)).elim | exact (ar_f7 (by assumption) (by assumption)).elim | exact (ar_f8 (by assumption) (by assumption)).elim | exact (ar_f9 (by assumption) (by assumption)).elim | exact (ar_f10 (by assumption) (by assumption)).elim) | (intro _; first | exact (ar_f1 (by assumption) (by assumption) (by assumption)).elim | exact (ar_f2 (by assumption) (by assumption) (by assumption)).elim | exact (ar_c1 (by assumption) (by assumption)).elim | exact (ar_c2 (by assumption) (by assumption)).elim | exact (ar_c3 (by assumption) (by assumption)).elim | exact (ar_c4 (by assumption) (by assumption)).elim | exact (ar_c5 (by assumption) (by assumption)).elim | exact (ar_c7 (by assumption) (by assumption)).elim | exact (ar_c8 (by assumption) (by assumption)).elim | exact (ar_c9 (by assumption) (by assumption)).elim | exact (ar_c10 (by assumption) (by assumption)).elim | exact (ar_c11 (by assumption) (by assumption)).elim | exact (ar_c12 (by assumption) (by assumption)).elim | exact (ar_c13 (by assumption) (by assumption)).elim | exact (ar_f3 (by assumption) (by assumption)).elim | exact (ar_f4 (by assumption) (by assumption)).elim | exact (ar_f5 (by assumption) (by assumption)).elim | exact (ar_f6 (by assumption) (by assumption)).elim | exact (ar_f7 (by assumption) (by assumption)).elim | exact (ar_f8 (by assumption) (by assumption)).elim | exact (ar_f9 (by assumption) (by assumption)).elim | exact (ar_f10 (by assumption) (by assumption)).elim) | exact ar_i1 (by assumption) | exact ar_i2 (by assumption) | exact ar_i3 (by assumption) (by decide))
  k_with "MINE enter" => (refine' code_def ?zqk1 ?zqk2 ?zqk3 ?zqk4 ?zqk5 ?zqkA ?zqkF ?zqkK ?zqk6 ?zqk7 ?zqk8 ?zqk9 ?zqkB ?_ ?zqc2 ?zqc3 ?zqc4 ?zqc5; (case zqkA => exact rfl); (case zqkF => exact rfl); (case zqkK => assumption); (case zqk1 => k_asm); (case zqk2 => k_asm); (case zqk3 => k_asm); (case zqk4 => k_asm); (case zqk5 => k_asm); (case zqk6 => k_is); (case zqk7 => k_is); (case zqk8 => ktr_room); (case zqk9 => first | exact BindsTo.of_eq rfl | exact binds_K (by k_in) rfl (by k_is) rfl rfl rfl); (case zqc5 => decide); (case zqkB => exact locs rfl); (case zqc2 => exact rfl); (case zqc3 => exact rfl); (case zqc4 => exact rfl); k_whole; intro g' L' h' FG' F' N' B' X' T'; (try dsimp only); (try k_lift B'); (try k_fold))
  k_with "exec While BoolOp cons nil" => (refine stop ?_)
  k_with "exec While Compare cons nil" => (refine stop ?_)
  k_with "MINE same" => (intro z h2 h3; simp only [List.forall_mem_cons, List.not_mem_nil, false_implies, implies_true, and_true, ne_eq] at h2; (try simp only [List.contains_cons, List.contains_nil, Bool.or_false, Bool.or_eq_false_iff, beq_eq_false_iff_ne, ne_eq] at h3); simp [kstB, h2, h3])
  k_with "KswPost" => (refine stop ?_)
  k_with "subscriptTail Name Name str int" => (k_here; (with_unfolding_all refine' item_a ?zqk0 ?zqk1 ?zqk2 ?zqk3 ?_; (case zqk0 => assumption); (case zqk1 => first | rfl | exact Int.natCast_add _ _ | omega); (case zqk2 => omega); (case zqk3 => omega)); intro hItem')
  k_with "subscriptTail Name BinOp str int" => (k_here; (with_unfolding_all refine' item_a (n := _ + 1) ?zqk0 ?zqk1 ?zqk2 ?zqk3 ?_; (case zqk0 => assumption); (case zqk1 => rfl); (case zqk2 => omega); (case zqk3 => omega)); intro hItem')
  k_with "compareOp Eq str str" => (k_here; first | refine eq_c lit_lt ?_ | refine eq_c lit_gt ?_ | refine eq_c lit_bs ?_ | refine eq_c lit_lp ?_ | refine eq_c lit_rp ?_ | refine eq_c lit_nl ?_ | refine eq_c lit_cr ?_ | refine eq_c lit_del ?_ | refine eq_c lit_nul ?_ | refine eq_c lit_blank ?_)
  k_with "compareOp In str str" => (k_here; first | refine in_c _ (in_ws _) ?_ | refine in_c _ (in_bt _) ?_ | refine in_c _ (in_nr _) ?_ | refine in_c _ (in_bad _) ?_ | refine in_c _ (in_punct _) ?_)
  k_with "call builtin:len" => (k_here; (with_reducible show wpAny _ _ (call (Value.builtin "len") [Value.str _ _]) _ _ _); refine len_c (by omega) ?_)
  k_with "call ref" => (k_here; (with_reducible show wpAny _ _ (call (Value.ref _) _ _) _ _ _); refine stop ?_)
  k_with "MINE room" => ((case B => k_asm); (case F => k_asm); (case X => k_asm); (case N => k_asm); (case T => k_asm); (case hk => first | exact rfl | assumption); (case hd => ktr_room); (case hu => ktr_units))
  k_with "getMethod ref" => (k_here; (with_reducible show wpAny _ _ (getMethod _ (Str.ofString "sub") _) _ _ _); k_dflt (refine' getM ?zqF ?zqX ?zql slot_sub type_sub ?_; (case zqF => k_asm); (case zqX => k_asm); (case zql => k_is)))
  k_with "getMethod ref" => (k_here; (with_reducible show wpAny _ _ (getMethod _ (Str.ofString "match") _) _ _ _); k_dflt (refine' getM ?zqF ?zqX ?zql slot_match type_match ?_; (case zqF => k_asm); (case zqX => k_asm); (case zql => k_is)))
  k_with "callWith ref" => (k_here; k_dflt (refine' callWith_K ?zqk1 ?zqk2 ?_; (case zqk1 => k_asm); (case zqk2 => k_is); k_whole))
  k_with "call builtin:list.append" => (k_here; k_dflt (refine' append_T ?zqF ?zqN ?zql ?zqz ?_; (case zqF => k_asm); (case zqN => k_asm); (case zql => assumption); (case zqz => assumption)); intro h' F' N'; (try k_sweep))
  k_with "getMethod ref" => (k_here; (with_reducible show wpAny _ _ (getMethod _ (Str.ofString "group") _) _ _ _); k_dflt (refine' getMm ?zqN ?zqm ?_; (case zqN => k_asm); (case zqm => k_mem)))
  k_with "call builtin:re.Match.group" => (k_here; k_dflt (refine' group_E ?zqz ?zqN ?zqm ?zqn ?_; (case zqN => k_asm); (case zqm => k_mem); (case zqn => k_mem); (case zqz => omega)); intro tk')
  k_with "truthy str" => (k_here; refine truthy_c (by simp [Array.size_extract]; omega) ?_)
  k_with "binaryOp Add str str" => (k_here; refine add_c (by simp [Array.size_extract, lit_nil]; omega) ?_; intro ta' tka')
  k_with "MINE lam" => (refine' kla_code ?zqk1 ?zqk2 ?zqk3 ?zqk4 ?zqk5 ?zqkA ?zqkF ?zqkK ?zqk6 ?zqk7 ?zqk8 ?zqk9 ?zqkB ?_ ?zqc2 ?zqc3 ?zqc4 ?zqc5; (case zqkA => exact rfl); (case zqkF => exact rfl); (case zqkK => exact rfl); (case zqk1 => k_asm); (case zqk2 => k_asm); (case zqk3 => k_asm); (case zqk4 => k_asm); (case zqk5 => k_asm); (case zqk6 => k_mem); (case zqk7 => exact codeRec_news (by k_asm) (by k_mem) (by assumption) (by assumption)); (case zqk8 => ktr_room); (case zqk9 => exact rfl); (case zqc5 => decide); (case zqkB => exact locs rfl); (case zqc2 => exact rfl); (case zqc3 => exact rfl); (case zqc4 => exact rfl); k_whole; intro g' L' h' FG' F' N' B' X' T'; (try dsimp only); (try k_lift B'); (try k_fold))
  k_with "compareOp NotIn str str" => (k_here; first | refine notin_c _ (in_ws _) ?_ | refine notin_c _ (in_bt _) ?_ | refine notin_c _ (in_nr _) ?_ | refine notin_c _ (in_bad _) ?_ | refine notin_c _ (in_punct _) ?_)
  k_with "ite" => (first | (with_reducible refine ite_ff9 ?_) | (with_reducible refine ite_tt9 ?_))
  exact True.intro

theorem angle_cons {u : U} {r : List U} : angle (u :: r) = if u.is 62 then some ([], r) else if u.is 60 || u.is 10 then none else (angle r).map fun p => (u :: p.1, p.2) := rfl
theorem words_s_angle_2 : True := by
  k_with "MINE angle" => (
    refine hR9 _ _ ?_
    dsimp only [KswPost]
    have hk0 : k < src.cps.size := by omega
    obtain ⟨r, rfl, ha'⟩ := ha.one hk0 (by
      intro h1 h2
      first
        | omega
        | (cases q : esc src.cps[k + 1] with
           | false => rfl
           | true => exact absurd ((esc_punct (hal _ h2)).mpr q) (by assumption)))
    rename News _ _ _ _ => nE'
    refine ksw_end ⟨k + 1, _, pre ++ [⟨false, src.cps[k]⟩], r⟩ (by assumption) nE' (fun _ h => h) trivial (by kst_all) (by walk_at "MINE same") ⟨ha', ?_, ?_, by dsimp only; omega⟩ (by dsimp only; omega)
    · dsimp only; rw [hb]; simp
    · dsimp only
      rw [hc, angle_cons, if_neg (by simp [U.is]; omega), if_neg (by simp [U.is]; omega)]
      cases angle r <;> simp)
  exact True.intro
set_option maxHeartbeats 8000000 in
theorem angle_spec {w : World} {p : Program} {loose : List Str} {mean : ExcName → Option Value} {mg mb : Str → Option Value} {src : Str} {st pt : Tok} {pos : Nat} {us : List U}
   (hA : At src (pos + 1) us) (hsz : src.cps.size < 100) (hal : Alpha src) :
   SpecOf w p loose mean mg mb 135 1 [.str src st, .int pos pt] (fun tl r => ∃ a, r = .ref a ∧ match angle us with
     | none => tl = [(a, tupObj [.none, .none])]
     | some (g, rest) => ∃ (n : Nat) (t t2 : Tok), tl = [(a, tupObj [.str ⟨(flat g).toArray⟩ t, .int n t2])] ∧ At src n rest ∧ pos < n) := by
  unfold SpecOf
  k_fill
  intro dp un gd cn cs a ccd cl outer A₀ base h₀ L m news s Q E B F X N T hk hd hu hret
  refine wpAny_call ?_
  k_dflt walk_at "MINE enter"
  k_steps
  refine unstop ?_
  rename Fr _ _ _ _ => F1
  rename News _ _ _ _ => N1
  refine ksw_abs (σ := Nat × Tok × List U × List U) (fun _ => news) (fun c => [("pos", .int c.1 c.2.1)]) ["c"] (fun c => At src c.1 c.2.2.2 ∧ us = c.2.2.1 ++ c.2.2.2 ∧ angle us = (angle c.2.2.2).map (fun q => (c.2.2.1 ++ q.1, q.2)) ∧ pos + 1 ≤ c.1) (fun c => src.cps.size - c.1) (pos + 1, _, [], us) F1 N1 (by kst_all) ⟨hA, rfl, by simp, Nat.le_refl _⟩ ?_
  rintro R9 ⟨k, t, pre, us'⟩ u h tk hR9 ⟨ha, hb, hc, hn⟩ F2 N2
  dsimp only at ha hb hc hn F2
  try k_fold
  k_steps
  · -- closed
    refine hR9 _ _ ?_
    dsimp only [KswPost]
    k_steps
    have hk0 : k < src.cps.size := by omega
    have h62 : src.cps[k] = 62 := by assumption
    obtain ⟨r, rfl, ha'⟩ := ha.one hk0 (by intro h1; omega)
    have e1 : angle us = some (pre, r) := by rw [hc, angle_cons, if_pos (by simp [U.is, h62])]; simp
    have e2 : Txt.slice src (some ((pos : Int) + 1)) (some (k : Int)) = ⟨(flat pre).toArray⟩ := by
      have := txt_slice (x := src) (a := pos + 1) (b := k) hn ha.le
      rw [At.between (by rw [← hb]; exact hA) ha hn] at this
      exact this
    rename News h₀ L _ _ => N9
    rw [e2] at N9
    refine hret _ [_] _ _ (by assumption) N9 (fun q hq p hp => ?_) ⟨_, rfl, ?_⟩
    · rw [List.mem_singleton.mp hp]
      rename (∀ p ∈ news, p.1 < _) => l1
      exact l1 q hq
    · rw [e1]
      exact ⟨k + 1, _, _, rfl, ha', by omega⟩
  · -- an escaped sign
    refine hR9 _ _ ?_
    dsimp only [KswPost]
    have hk1 : k + 1 < src.cps.size := by omega
    have h92 : src.cps[k] = 92 := by assumption
    have hp : Punct src.cps[k + 1] := by assumption
    obtain ⟨r, rfl, ha'⟩ := ha.two hk1 h92 ((esc_punct (hal _ hk1)).mp hp)
    rename News _ _ _ _ => nE'
    refine ksw_end ⟨k + 2, _, pre ++ [⟨true, src.cps[k + 1]⟩], r⟩ (by assumption) nE' (fun _ h => h) trivial (by kst_all) (by walk_at "MINE same") ⟨ha', ?_, ?_, by dsimp only; omega⟩ (by dsimp only; omega)
    · dsimp only; rw [hb]; simp
    · dsimp only
      rw [hc, angle_cons, if_neg (by simp [U.is]), if_neg (by simp [U.is])]
      cases angle r <;> simp
  · walk_at "MINE angle"
  · walk_at "MINE angle"
  · -- a sign that may not stand there
    refine hR9 _ _ ?_
    dsimp only [KswPost]
    k_steps
    have hk0 : k < src.cps.size := by omega
    obtain ⟨r, rfl, ha'⟩ := ha.one hk0 (by intro h1; omega)
    have e1 : angle us = none := by
      rw [hc, angle_cons, if_neg (by simp [U.is]; omega), if_pos (by simp [U.is]; omega)]; rfl
    rename News h₀ L _ _ => N9
    refine hret _ [_] _ _ (by assumption) N9 (fun q hq p hp => ?_) ⟨_, rfl, ?_⟩
    · rw [List.mem_singleton.mp hp]
      rename (∀ p ∈ news, p.1 < _) => l1
      exact l1 q hq
    · rw [e1]
  · walk_at "MINE angle"
  · -- the text's end
    rename News h₀ L _ _ => N9
    have e1 : angle us = none := by
      rw [hc, ha.end_ (by omega)]; rfl
    refine hret _ [_] _ _ (by assumption) N9 (fun q hq p hp => ?_) ⟨_, rfl, ?_⟩
    · rw [List.mem_singleton.mp hp]
      rename (∀ p ∈ news, p.1 < _) => l1
      exact l1 q hq
    · rw [e1]

theorem words_s_href_1 : True := by
  k_with_none
  w_top off
  k_with "MINE ar" => (with_reducible first | assumption | decide | ((show @LT.lt Nat _ _ _); first | exact ar_n1 (by assumption) | exact ar_n2 (by assumption) | exact ar_n6 (by assumption) | exact ar_n12 (by assumption) | exact ar_n13 (by assumption) | exact ar_k1 (by assumption) | exact ar_k2 (by assumption) | exact ar_k3 (by assumption) | exact ar_k4 (by assumption) | exact ar_k8 (by assumption) | exact ar_m1 (by assumption) | exact ar_m2 (by assumption) | exact ar_m3 (by assumption) | exact ar_m4 (by assumption) | exact ar_m5 (by assumption) | exact ar_e4 (by assumption) | exact ar_e5 (by assumption) | exact ar_r1 (by assumption) | exact Nat.lt_succ_self _ | exact ar_r2 (by assumption) (by decide) | exact ar_r3 (by assumption) (by decide) | exact ar_n7 (by assumption) (by assumption) | exact ar_n8 (by assumption) (by assumption) | exact ar_n16 (by assumption) (by assumption) | exact ar_n20 (by assumption) (by assumption) | exact ar_n21 (by assumption) (by assumption) | exact ar_n23 (by assumption) (by assumption) | exact ar_n24 (by assumption) (by assumption) | exact ar_e17 (by assumption) (by assumption) | exact ar_e19 (by assumption) (by assumption) | exact ar_n14 (by assumption) (by assumption) (by assumption) | exact ar_n26 (by assumption) (by assumption) (by assumption) | exact ar_n27 (by assumption) (by assumption) (by assumption) | exact ar_n15 (by assumption) (by assumption) (by assumption) (by assumption) | exact ar_n22 (by assumption) (by assumption) (by assumption) (by assumption)) | ((show @LE.le Nat _ _ _); first | exact Nat.le_refl _ | exact Nat.le_add_right _ _ | exact ar_n3 (by assumption) | exact ar_n4 (by assumption) | exact ar_n5 (by assumption) | exact ar_k7 (by assumption) | exact ar_k10 (by assumption) | exact ar_k13 (by assumption) | exact ar_e1 (by assumption) | exact ar_e2 (by assumption) | exact ar_e3 (by assumption) | exact ar_e6 (by assumption) | exact ar_e7 (by assumption) | exact ar_e8 (by assumption) | exact ar_s1 (by assumption) | exact ar_w2 (by assumption) | exact ar_n25 (by assumption) | exact ar_n9 (by assumption) (by assumption) | exact ar_n17 (by assumption) (by assumption) | exact ar_n28 (by assumption) (by assumption) | exact ar_e9 (by assumption) (by assumption) | exact ar_e10 (by assumption) (by assumption) | exact ar_e18 (by assumption) (by assumption) | exact ar_s3 (by assumption) (by assumption) | exact ar_n10 (by assumption) (by assumption) (by assumption) | exact ar_n11 (by assumption) (by assumption) (by assumption)) | ((show @LT.lt Int _ _ _); first | exact ar_k9 (by assumption) | exact ar_n18 (by assumption) | exact ar_n19 (by assumption) (by assumption)) | ((show @LE.le Int _ _ _); first | exact Int.natCast_nonneg _) | ((show @Eq Nat _ _); first | exact ar_e11 (by assumption) | exact ar_e12 (by assumption) | exact ar_e13 (by assumption) | exact ar_e15 (by assumption) | exact ar_s2 (by assumption) | exact ar_s4 (by assumption) | exact ar_w6 (by assumption) (by assumption) | exact ar_nn (by assumption)) | ((show @Eq Int _ _); first | exact ar_i5 | exact ar_i6 | exact ar_i7 | exact ar_i8 (by assumption)) | ((show ¬ _); first | exact ar_k5 (by assumption) | exact ar_k6 (by assumption) | exact ar_k11 (by assumption) | exact ar_k12 (by assumption) | exact ar_k14 (by assumption) | exact ar_e14 (by assumption) | exact ar_e16 (by assumption) | exact ar_e20 (by assumption) | exact ar_q1 (by assumption) | exact ar_q2 (by assumption) | exact ar_q3 (by assumption) | exact ar_q4 (by assumption) | exact ar_q5 (by assumption) | exact ar_w7 (by assumption) | exact ar_w8 (by assumption) | exact ar_w14 (by assumption) | exact ar_w16 (by assumption) | exact ar_w18 (by assumption) | exact ar_w19 (by assumption) | exact ar_w20 (by assumption) | exact ar_o3 (by assumption) | exact ar_o4 (by assumption) | exact ar_d (by assumption) (by decide) | exact ar_l1 (by assumption) (by assumption) | exact ar_l2 (by assumption) (by assumption) | exact ar_l3 (by assumption) (by assumption) | exact ar_w17 (by assumption) (by assumption) | exact ar_lv (by assumption) (by assumption) (by assumption) | exact ar_nn2 (by assumption)) | ((show _ ∧ _); first | exact ar_w1 (by assumption) | exact ar_w10 (by assumption) | exact ar_w12 (by assumption) | exact ar_w13 (by assumption) | exact ar_o2 (by assumption) | exact ar_w4 (by assumption) (by assumption) | exact ar_i4 (by assumption) (by assumption)) | ((show _ ∨ _); first | exact ar_o1 (by assumption) | exact ar_w3 (by assumption) (by assumption) | exact ar_w5 (by assumption) (by assumption) | exact ar_w9 (by assumption) (by assumption) | exact ar_w11 (by assumption) (by assumption)) | ((show _ ↔ _); first | exact ar_z3 | exact ar_z4 | exact ar_z5) | ((show False); first | exact (ar_f1 (by assumption) (by assumption) (by assumption)).elim | exact (ar_f2 (by assumption) (by assumption) (by assumption)).elim | exact (ar_c1 (by assumption) (by assumption)).elim | exact (ar_c2 (by assumption) (by assumption)).elim | exact (ar_c3 (by assumption) (by assumption)).elim | exact (ar_c4 (by assumption) (by assumption)).elim | exact (ar_c5 (by assumption) (by assumption)).elim | exact (ar_c7 (by assumption) (by assumption)).elim | exact (ar_c8 (by assumption) (by assumption)).elim | exact (ar_c9 (by assumption) (by assumption)).elim | exact (ar_c10 (by assumption) (by assumption)).elim | exact (ar_c11 (by assumption) (by assumption)).elim | exact (ar_c12 (by assumption) (by assumption)).elim | exact (ar_c13 (by assumption) (by assumption)).elim | exact (ar_f3 (by assumption) (by assumption)).elim | exact (ar_f4 (by assumption) (by assumption)).elim | exact (ar_f5 (by assumption) (by assumption)).elim | exact (ar_f6 (by assumption) (by assumption)).elim | exact (ar_f7 (by assumption) (by assumption)).elim | exact (ar_f8 (by assumption) (by assumption)).elim | exact (ar_f9 (by assumption) (by assumption)).elim | exact (ar_f10 (by assumption) (by assumption)).elim) | ((show @Eq _ _ _); first | exact (ar_f1 (by assumption) (by assumption) (by assumption)).elim | exact (ar_f2 (by assumption) (by assumption) (by assumption)).elim | exact (ar_c1 (by assumption) (by assumption)).elim | exact (ar_c2 (by assumption) (by assumption)).elim | exact (ar_c3 (by assumption) (by assumption)).elim | exact (ar_c4 (by assumption) (by assumption)).elim | exact (ar_c5 (by assumption) (by assumption)).elim | exact (ar_c7 (by assumption) (by assumption)).elim | exact (ar_c8 (by assumption) (by assumption)).elim | exact (ar_c9 (by assumption) (by assumption)).elim | exact (ar_c10 (by assumption) (by assumption)).elim | exact (ar_c11 (by assumption) (by assumption)).elim | exact (ar_c12 (by assumption) (by assumption)).elim | exact (ar_c13 (by assumption) (by assumption)).elim | exact (ar_f3 (by assumption) (by assumption)).elim | exact (ar_f4 (by assumption) (by assumption)).elim | exact (ar_f5 (by assumption) (by assumption)).elim | exact (ar_f6 (by assumption) (by assumption)).elim | exact (ar_f7 (by assumption) (by assumption)).elim | exact (ar_f8 (by assumption) (by assumption)).elim | exact (ar_f9 (by assumption) (by assumption)).elim | exact (ar_f10 (by assumption) (by assumption)).elim) | (intro _; first | exact (ar_f1 (by assumption) (by assumption) (by assumption)).elim | exact (ar_f2 (by assumption) (by assumption) (by assumption)).elim | exact (ar_c1 (by assumption) (by assumption)).elim | exact (ar_c2 (by assumption) (by assumption)).elim | exact (ar_c3 (by assumption) (by assumption)).elim | exact (ar_c4 (by assumption) (by assumption)).elim | exact (ar_c5 (by assumption) (by assumption)).elim | exact (ar_c7 (by assumption) (by assumption)).elim | exact (ar_c8 (by assumption) (by assumption)).elim | exact (ar_c9 (by assumption) (by assumption)).elim | exact (ar_c10 (by assumption) (by assumption)).elim | exact (ar_c11 (by assumption) (by assumption)).elim | exact (ar_c12 (by assumption) (by assumption)).elim | exact (ar_c13 (by assumption) (by assumption)).elim | exact (ar_f3 (by assumption) (by assumption)).elim | exact (ar_f4 (by assumption) (by assumption)).elim | exact (ar_f5 (by assumption) (by assumption)).elim | exact (ar_f6 (by assumption) (by assumption)).elim | exact (ar_f7 (by assumption) (by assumption)).elim | exact (ar_f8 (by assumption) (by assumption)).elim | exact (ar_f9 (by assumption) (by assumption)).elim | exact (ar_f10 (by assumption) (by assumption)).elim) | exact ar_i1 (by assumption) | exact ar_i2 (by assumption) | exact ar_i3 (by assumption) (by decide))
  k_with "MINE enter" => (refine' code_def ?zqk1 ?zqk2 ?zqk3 ?zqk4 ?zqk5 ?zqkA ?zqkF ?zqkK ?zqk6 ?zqk7 ?zqk8 ?zqk9 ?zqkB ?_ ?zqc2 ?zqc3 ?zqc4 ?zqc5; (case zqkA => exact rfl); (case zqkF => exact rfl); (case zqkK => assumption); (case zqk1 => k_asm); (case zqk2 => k_asm); (case zqk3 => k_asm); (case zqk4 => k_asm); (case zqk5 => k_asm); (case zqk6 => k_is); (case zqk7 => k_is); (case zqk8 => ktr_room); (case zqk9 => first | exact BindsTo.of_eq rfl | exact binds_K (by k_in) rfl (by k_is) rfl rfl rfl); (case zqc5 => decide); (case zqkB => exact locs rfl); (case zqc2 => exact rfl); (case zqc3 => exact rfl); (case zqc4 => exact rfl); k_whole; intro g' L' h' FG' F' N' B' X' T'; (try dsimp only); (try k_lift B'); (try k_fold))
  k_with "exec While BoolOp cons nil" => (refine stop ?_)
  k_with "exec While Compare cons nil" => (refine stop ?_)
  k_with "MINE same" => (intro z h2 h3; simp only [List.forall_mem_cons, List.not_mem_nil, false_implies, implies_true, and_true, ne_eq] at h2; (try simp only [List.contains_cons, List.contains_nil, Bool.or_false, Bool.or_eq_false_iff, beq_eq_false_iff_ne, ne_eq] at h3); simp [kstB, h2, h3])
  k_with "KswPost" => (refine stop ?_)
  k_with "subscriptTail Name Name str int" => (k_here; (with_unfolding_all refine' item_a ?zqk0 ?zqk1 ?zqk2 ?zqk3 ?_; (case zqk0 => assumption); (case zqk1 => first | rfl | exact Int.natCast_add _ _ | omega); (case zqk2 => omega); (case zqk3 => omega)); intro hItem')
  k_with "subscriptTail Name BinOp str int" => (k_here; (with_unfolding_all refine' item_a (n := _ + 1) ?zqk0 ?zqk1 ?zqk2 ?zqk3 ?_; (case zqk0 => assumption); (case zqk1 => rfl); (case zqk2 => omega); (case zqk3 => omega)); intro hItem')
  k_with "compareOp Eq str str" => (k_here; first | refine eq_c lit_lt ?_ | refine eq_c lit_gt ?_ | refine eq_c lit_bs ?_ | refine eq_c lit_lp ?_ | refine eq_c lit_rp ?_ | refine eq_c lit_nl ?_ | refine eq_c lit_cr ?_ | refine eq_c lit_del ?_ | refine eq_c lit_nul ?_ | refine eq_c lit_blank ?_)
  k_with "compareOp In str str" => (k_here; first | refine in_c _ (in_ws _) ?_ | refine in_c _ (in_bt _) ?_ | refine in_c _ (in_nr _) ?_ | refine in_c _ (in_bad _) ?_ | refine in_c _ (in_punct _) ?_)
  k_with "call builtin:len" => (k_here; (with_reducible show wpAny _ _ (call (Value.builtin "len") [Value.str _ _]) _ _ _); refine len_c (by omega) ?_)
  k_with "call ref" => (k_here; (with_reducible show wpAny _ _ (call (Value.ref _) _ _) _ _ _); refine stop ?_)
  k_with "MINE room" => ((case B => k_asm); (case F => k_asm); (case X => k_asm); (case N => k_asm); (case T => k_asm); (case hk => first | exact rfl | assumption); (case hd => ktr_room); (case hu => ktr_units))
  k_with "getMethod ref" => (k_here; (with_reducible show wpAny _ _ (getMethod _ (Str.ofString "sub") _) _ _ _); k_dflt (refine' getM ?zqF ?zqX ?zql slot_sub type_sub ?_; (case zqF => k_asm); (case zqX => k_asm); (case zql => k_is)))
  k_with "getMethod ref" => (k_here; (with_reducible show wpAny _ _ (getMethod _ (Str.ofString "match") _) _ _ _); k_dflt (refine' getM ?zqF ?zqX ?zql slot_match type_match ?_; (case zqF => k_asm); (case zqX => k_asm); (case zql => k_is)))
  k_with "callWith ref" => (k_here; k_dflt (refine' callWith_K ?zqk1 ?zqk2 ?_; (case zqk1 => k_asm); (case zqk2 => k_is); k_whole))
  k_with "call builtin:list.append" => (k_here; k_dflt (refine' append_T ?zqF ?zqN ?zql ?zqz ?_; (case zqF => k_asm); (case zqN => k_asm); (case zql => assumption); (case zqz => assumption)); intro h' F' N'; (try k_sweep))
  k_with "getMethod ref" => (k_here; (with_reducible show wpAny _ _ (getMethod _ (Str.ofString "group") _) _ _ _); k_dflt (refine' getMm ?zqN ?zqm ?_; (case zqN => k_asm); (case zqm => k_mem)))
  k_with "call builtin:re.Match.group" => (k_here; k_dflt (refine' group_E ?zqz ?zqN ?zqm ?zqn ?_; (case zqN => k_asm); (case zqm => k_mem); (case zqn => k_mem); (case zqz => omega)); intro tk')
  k_with "truthy str" => (k_here; refine truthy_c (by simp [Array.size_extract]; omega) ?_)
  k_with "binaryOp Add str str" => (k_here; refine add_c (by simp [Array.size_extract, lit_nil]; omega) ?_; intro ta' tka')
  k_with "MINE lam" => (refine' kla_code ?zqk1 ?zqk2 ?zqk3 ?zqk4 ?zqk5 ?zqkA ?zqkF ?zqkK ?zqk6 ?zqk7 ?zqk8 ?zqk9 ?zqkB ?_ ?zqc2 ?zqc3 ?zqc4 ?zqc5; (case zqkA => exact rfl); (case zqkF => exact rfl); (case zqkK => exact rfl); (case zqk1 => k_asm); (case zqk2 => k_asm); (case zqk3 => k_asm); (case zqk4 => k_asm); (case zqk5 => k_asm); (case zqk6 => k_mem); (case zqk7 => exact codeRec_news (by k_asm) (by k_mem) (by assumption) (by assumption)); (case zqk8 => ktr_room); (case zqk9 => exact rfl); (case zqc5 => decide); (case zqkB => exact locs rfl); (case zqc2 => exact rfl); (case zqc3 => exact rfl); (case zqc4 => exact rfl); k_whole; intro g' L' h' FG' F' N' B' X' T'; (try dsimp only); (try k_lift B'); (try k_fold))
  k_with "compareOp NotIn str str" => (k_here; first | refine notin_c _ (in_ws _) ?_ | refine notin_c _ (in_bt _) ?_ | refine notin_c _ (in_nr _) ?_ | refine notin_c _ (in_bad _) ?_ | refine notin_c _ (in_punct _) ?_)
  k_with "ite" => (first | (with_reducible refine ite_ff9 ?_) | (with_reducible refine ite_tt9 ?_))
  exact True.intro

theorem href_cons {d : Nat} {u : U} {r : List U} : href d (u :: r) =
    if u.ws then (if d = 0 then some ([], u :: r) else none)
    else if u.is 41 then (match d with | 0 => some ([], u :: r) | d + 1 => (href d r).map fun p => (u :: p.1, p.2))
    else if u.is 40 then (href (d + 1) r).map fun p => (u :: p.1, p.2)
    else (href d r).map fun p => (u :: p.1, p.2) := by cases d <;> rfl
theorem words_s_href_2 : True := by
  k_with "MINE hrefNone" => (
    have hl : ¬ lev = 0 := by omega
    have e1 : dest (dropWs us) = none := by rw [ed, hc, E, if_neg hl]; rfl
    rename News h₀ L _ _ => N9
    rename (∀ p ∈ news, p.1 < _) => l12
    refine hret _ [_] _ _ (by assumption) N9 (fun q hq p hp => by rw [List.mem_singleton.mp hp]; exact l12 q hq) ⟨_, rfl, ?_⟩
    rw [e1]
    exact ⟨_, _, rfl⟩)
  k_with "MINE hrefSome" => (
    have hl : lev = 0 := by omega
    have e1 : dest (dropWs us) = some (pre, us') := by rw [ed, hc, E, if_pos hl]; simp
    have e2 : Txt.slice src (some (n9 : Int)) (some (k : Int)) = ⟨(flat pre).toArray⟩ := by
      have := txt_slice (x := src) (a := n9) (b := k) hn ha.le
      rw [At.between (by rw [← hb]; exact hAt) ha hn] at this
      exact this
    rename News h₀ L _ _ => N9
    rename (∀ p ∈ news, p.1 < _) => l12
    rw [e2] at N9
    refine hret _ [_] _ _ (by assumption) N9 (fun q hq p hp => by rw [List.mem_singleton.mp hp]; exact l12 q hq) ⟨_, rfl, ?_⟩
    rw [e1]
    exact ⟨_, _, _, rfl, ha, by omega⟩)
  k_with "MINE hrefOne" => (
    refine hR9 _ _ ?_
    dsimp only [KswPost]
    have hkk : k < src.cps.size := by omega
    obtain ⟨r, rfl, ha'⟩ := ha.one hkk (by
      intro h1 h2
      first
        | omega
        | (cases q : esc src.cps[k + 1] with
           | false => rfl
           | true => exact absurd ((esc_punct (hal _ h2)).mpr q) (by assumption)))
    rename News _ _ _ _ => nE'
    refine ksw_end ⟨k + 1, lev, _, _, pre ++ [⟨false, src.cps[k]⟩], r⟩ (by assumption) nE' (fun _ h => h) trivial (by kst_all) (by walk_at "MINE same") ⟨ha', ?_, ?_, by dsimp only; omega, by dsimp only; omega⟩ (by dsimp only; omega)
    · dsimp only; rw [hb]; simp
    · dsimp only
      rw [hc, href_cons, if_neg (by simp [U.ws]; omega), if_neg (by simp [U.is]; omega), if_neg (by simp [U.is]; omega)]
      cases href lev r <;> simp)
  exact True.intro
set_option maxHeartbeats 8000000 in
theorem href_spec {w : World} {p : Program} {loose : List Str} {mean : ExcName → Option Value} {mg mb : Str → Option Value} {src : Str} {st pt kt : Tok} {pos : Nat} {us : List U}
   (hA : At src pos us) (hsz20 : src.cps.size ≤ 20) (hal : Alpha src) (hnl : nls us ≤ 1) :
   SpecK w p loose mean mg mb 90 2 [.str src st, .int pos pt] [(Str.ofString "max_nested_level", .int 20 kt)] (fun tl r => ∃ a, r = .ref a ∧ match dest (dropWs us) with
     | none => ∃ (n : Nat) (t : Tok), tl = [(a, tupObj [.none, .none, .int n t])]
     | some (g, rest) => ∃ (n : Nat) (t t2 : Tok), tl = [(a, tupObj [.str ⟨(flat g).toArray⟩ t, .int n t2, .int n t2])] ∧ At src n rest ∧ pos ≤ n) := by
  unfold SpecK
  k_fill
  intro dp un gd cn cs a ccd cl outer A₀ base h₀ L m news s Q E B F X N T hk hd hu hret
  have hsz : src.cps.size < 100 := by omega
  refine wpAny_call ?_
  k_dflt walk_at "MINE enter"
  k_steps
  refine unstop ?_
  k_dflt (refine' SpecOf.use (start_spec hA hsz hal hnl) ?B ?F ?X ?N ?T ?hk ?hd ?hu ?_; walk_at "MINE room")
  rintro r9 tl9 h9 tk9 F9 N9 l9 ⟨rfl, n9, t9, rfl, hAt, hle⟩
  simp only [List.nil_append] at N9
  try k_fold
  k_steps
  · -- nothing is left
    rename News h₀ L _ _ => N9
    have e1 : dest (dropWs us) = none := by rw [hAt.end_ (by omega)]; rfl
    refine hret _ [_] _ _ (by assumption) N9 (fun q hq p hp => ?_) ⟨_, rfl, ?_⟩
    · rw [List.mem_singleton.mp hp]
      rename (∀ p ∈ news, p.1 < _) => l1
      exact l1 q hq
    · rw [e1]; exact ⟨_, _, rfl⟩
  · -- in angles
    refine unstop ?_
    have hk0 : n9 < src.cps.size := by omega
    have h60 : src.cps[n9] = 60 := by assumption
    obtain ⟨r0, e0, ha0⟩ := hAt.one hk0 (by intro h1; omega)
    have ed : dest (dropWs us) = angle r0 := by rw [e0]; show (if (U.is ⟨false, src.cps[n9]⟩ 60) = true then angle r0 else _) = _; rw [if_pos (by simp [U.is, h60])]
    k_dflt (refine' SpecOf.use (angle_spec ha0 hsz hal) ?B ?F ?X ?N ?T ?hk ?hd ?hu ?_; walk_at "MINE room")
    rintro r10 tl10 h10 tk10 F10 N10 l10 ⟨a10, rfl, hm⟩
    cases hang : angle r0 with
    | none =>
      rw [hang] at hm ed
      dsimp only at hm
      subst hm
      simp only [List.cons_append, List.nil_append] at N10
      have l11 : ∀ q ∈ news, q.1 < a10 := fun q hq => l10 q hq _ (.head _)
      try k_fold
      k_steps
      rename News h₀ L _ _ => N9
      rename (_ < _ ∧ AllLt _ news) => l12
      refine hret _ [_] _ _ (by assumption) (drop1 N9) (fun q hq p hp => ?_) ⟨_, rfl, ?_⟩
      · rw [List.mem_singleton.mp hp]
        exact ktn_ltOf l12.2 q hq
      · rw [ed]
        exact ⟨_, _, rfl⟩
    | some q =>
      obtain ⟨g, rest⟩ := q
      rw [hang] at hm ed
      dsimp only at hm
      obtain ⟨n, t, t2, rfl, hA3, hlt⟩ := hm
      simp only [List.cons_append, List.nil_append] at N10
      have l11 : ∀ q ∈ news, q.1 < a10 := fun q hq => l10 q hq _ (.head _)
      try k_fold
      k_steps
      rename News h₀ L _ _ => N9
      rename (_ < _ ∧ AllLt _ news) => l12
      refine hret _ [_] _ _ (by assumption) (drop1 N9) (fun q hq p hp => ?_) ⟨_, rfl, ?_⟩
      · rw [List.mem_singleton.mp hp]
        exact ktn_ltOf l12.2 q hq
      · rw [ed]
        exact ⟨_, _, _, rfl, hA3, by omega⟩
  · -- the loop
    refine unstop ?_
    have hk0 : n9 < src.cps.size := by omega
    have h60 : ¬ src.cps[n9] = 60 := by assumption
    have ed : dest (dropWs us) = href 0 (dropWs us) := by
      rcases hAt.split with ⟨_, e⟩ | ⟨hk, r0, e0, _, _⟩ | ⟨hk, r0, _, _, e0, _⟩
      · omega
      · rw [e0]; show (if (U.is ⟨false, src.cps[n9]⟩ 60) = true then _ else _) = _; rw [if_neg (by simp [U.is, h60])]
      · rw [e0]; rfl
    rename Fr _ _ _ _ => F1
    rename News _ _ _ _ => N1
    refine ksw_abs (σ := Nat × Nat × Tok × Tok × List U × List U) (fun _ => news) (fun c => [("pos", .int c.1 c.2.2.1), ("level", .int c.2.1 c.2.2.2.1)]) ["c"]
      (fun c => At src c.1 c.2.2.2.2.2 ∧ dropWs us = c.2.2.2.2.1 ++ c.2.2.2.2.2 ∧ href 0 (dropWs us) = (href c.2.1 c.2.2.2.2.2).map (fun q => (c.2.2.2.2.1 ++ q.1, q.2)) ∧ n9 ≤ c.1 ∧ c.2.1 ≤ c.1) (fun c => src.cps.size - c.1) (n9, 0, _, _, [], dropWs us) F1 N1 (by kst_all) ⟨hAt, rfl, by simp, Nat.le_refl _, Nat.zero_le _⟩ ?_
    rintro R9 ⟨k, lev, t, t', pre, us'⟩ u h tk hR9 ⟨ha, hb, hc, hn, hlv⟩ F2 N2
    dsimp only at ha hb hc hn hlv F2
    try k_fold
    k_steps
    · -- a blank
      refine hR9 _ _ ?_
      dsimp only [KswPost]
      have hkk : k < src.cps.size := by omega
      have E : href lev us' = if lev = 0 then some ([], us') else none := by
        obtain ⟨r, rfl, ha'⟩ := ha.one hkk (by intro h1; omega)
        rw [href_cons, if_pos (by simp [U.ws]; omega)]
      k_steps
      · walk_at "MINE hrefNone"
      · walk_at "MINE hrefSome"
    · -- an escaped sign
      refine hR9 _ _ ?_
      dsimp only [KswPost]
      have hk1 : k + 1 < src.cps.size := by omega
      have h92 : src.cps[k] = 92 := by assumption
      have hp : Punct src.cps[k + 1] := by assumption
      obtain ⟨r, rfl, ha'⟩ := ha.two hk1 h92 ((esc_punct (hal _ hk1)).mp hp)
      rename News _ _ _ _ => nE'
      rename Fr _ _ _ _ => F5
      have hmin : ¬ ((src.cps.size : Int) < (k : Int) + 2) := by omega
      simp only [if_neg hmin] at F5
      refine ksw_end ⟨k + 2, lev, _, _, pre ++ [⟨true, src.cps[k + 1]⟩], r⟩ (by assumption) nE' (fun _ h => h) trivial (by kst_all) (by walk_at "MINE same") ⟨ha', ?_, ?_, by dsimp only; omega, by dsimp only; omega⟩ (by dsimp only; omega)
      · dsimp only; rw [hb]; simp
      · dsimp only
        rw [hc, href_cons, if_neg (by simp [U.ws]), if_neg (by simp [U.is]), if_neg (by simp [U.is])]
        cases href lev r <;> simp
    · walk_at "MINE hrefOne"
    · walk_at "MINE hrefOne"
    · -- an opening parenthesis
      refine hR9 _ _ ?_
      dsimp only [KswPost]
      have hkk : k < src.cps.size := by omega
      have h40 : src.cps[k] = 40 := by assumption
      obtain ⟨r, rfl, ha'⟩ := ha.one hkk (by intro h1; omega)
      rename News _ _ _ _ => nE'
      refine ksw_end ⟨k + 1, lev + 1, _, _, pre ++ [⟨false, src.cps[k]⟩], r⟩ (by assumption) nE' (fun _ h => h) trivial (by kst_all) (by walk_at "MINE same") ⟨ha', ?_, ?_, by dsimp only; omega, by dsimp only; omega⟩ (by dsimp only; omega)
      · dsimp only; rw [hb]; simp
      · dsimp only
        rw [hc, href_cons, if_neg (by simp [U.ws, h40]), if_neg (by simp [U.is, h40]), if_pos (by simp [U.is, h40])]
        cases href (lev + 1) r <;> simp
    · -- the closing one
      refine hR9 _ _ ?_
      dsimp only [KswPost]
      have hkk : k < src.cps.size := by omega
      have h41 : src.cps[k] = 41 := by assumption
      have hl0 : lev = 0 := by omega
      have E : href lev us' = if lev = 0 then some ([], us') else none := by
        obtain ⟨r, rfl, ha'⟩ := ha.one hkk (by intro h1; omega)
        subst hl0
        rw [href_cons, if_neg (by simp [U.ws, h41]), if_pos (by simp [U.is, h41])]
        rfl
      k_steps
      · exfalso; omega
      · walk_at "MINE hrefSome"
    · -- an inner closing one
      refine hR9 _ _ ?_
      dsimp only [KswPost]
      have hkk : k < src.cps.size := by omega
      have h41 : src.cps[k] = 41 := by assumption
      obtain ⟨r, rfl, ha'⟩ := ha.one hkk (by intro h1; omega)
      rename News _ _ _ _ => nE'
      obtain ⟨lv, rfl⟩ : ∃ lv, lev = lv + 1 := ⟨lev - 1, by omega⟩
      rename Fr _ _ _ _ => F5
      have elv : ((lv + 1 : Nat) : Int) - 1 = (lv : Int) := by omega
      simp only [elv] at F5
      refine ksw_end ⟨k + 1, lv, _, _, pre ++ [⟨false, src.cps[k]⟩], r⟩ (by assumption) nE' (fun _ h => h) trivial (by kst_all) (by walk_at "MINE same") ⟨ha', ?_, ?_, by dsimp only; omega, by dsimp only; omega⟩ (by dsimp only; omega)
      · dsimp only; rw [hb]; simp
      · dsimp only
        rw [hc, href_cons, if_neg (by simp [U.ws, h41]), if_pos (by simp [U.is, h41])]
        dsimp only
        cases href lv r <;> simp
    · walk_at "MINE hrefOne"
    · have E : href lev us' = if lev = 0 then some ([], us') else none := by
        rw [ha.end_ (by omega)]; rfl
      walk_at "MINE hrefNone"
    · have E : href lev us' = if lev = 0 then some ([], us') else none := by
        rw [ha.end_ (by omega)]; rfl
      walk_at "MINE hrefSome"

theorem words_title0_1 : True := by
  k_with_none
  w_top off
  k_with "MINE ar" => (with_reducible first | assumption | decide | ((show @LT.lt Nat _ _ _); first | exact ar_n1 (by assumption) | exact ar_n2 (by assumption) | exact ar_n6 (by assumption) | exact ar_n12 (by assumption) | exact ar_n13 (by assumption) | exact ar_k1 (by assumption) | exact ar_k2 (by assumption) | exact ar_k3 (by assumption) | exact ar_k4 (by assumption) | exact ar_k8 (by assumption) | exact ar_m1 (by assumption) | exact ar_m2 (by assumption) | exact ar_m3 (by assumption) | exact ar_m4 (by assumption) | exact ar_m5 (by assumption) | exact ar_e4 (by assumption) | exact ar_e5 (by assumption) | exact ar_r1 (by assumption) | exact Nat.lt_succ_self _ | exact ar_r2 (by assumption) (by decide) | exact ar_r3 (by assumption) (by decide) | exact ar_n7 (by assumption) (by assumption) | exact ar_n8 (by assumption) (by assumption) | exact ar_n16 (by assumption) (by assumption) | exact ar_n20 (by assumption) (by assumption) | exact ar_n21 (by assumption) (by assumption) | exact ar_n23 (by assumption) (by assumption) | exact ar_n24 (by assumption) (by assumption) | exact ar_e17 (by assumption) (by assumption) | exact ar_e19 (by assumption) (by assumption) | exact ar_n14 (by assumption) (by assumption) (by assumption) | exact ar_n26 (by assumption) (by assumption) (by assumption) | exact ar_n27 (by assumption) (by assumption) (by assumption) | exact ar_n15 (by assumption) (by assumption) (by assumption) (by assumption) | exact ar_n22 (by assumption) (by assumption) (by assumption) (by assumption)) | ((show @LE.le Nat _ _ _); first | exact Nat.le_refl _ | exact Nat.le_add_right _ _ | exact ar_n3 (by assumption) | exact ar_n4 (by assumption) | exact ar_n5 (by assumption) | exact ar_k7 (by assumption) | exact ar_k10 (by assumption) | exact ar_k13 (by assumption) | exact ar_e1 (by assumption) | exact ar_e2 (by assumption) | exact ar_e3 (by assumption) | exact ar_e6 (by assumption) | exact ar_e7 (by assumption) | exact ar_e8 (by assumption) | exact ar_s1 (by assumption) | exact ar_w2 (by assumption) | exact ar_n25 (by assumption) | exact ar_n9 (by assumption) (by assumption) | exact ar_n17 (by assumption) (by assumption) | exact ar_n28 (by assumption) (by assumption) | exact ar_e9 (by assumption) (by assumption) | exact ar_e10 (by assumption) (by assumption) | exact ar_e18 (by assumption) (by assumption) | exact ar_s3 (by assumption) (by assumption) | exact ar_n10 (by assumption) (by assumption) (by assumption) | exact ar_n11 (by assumption) (by assumption) (by assumption)) | ((show @LT.lt Int _ _ _); first | exact ar_k9 (by assumption) | exact ar_n18 (by assumption) | exact ar_n19 (by assumption) (by assumption)) | ((show @LE.le Int _ _ _); first | exact Int.natCast_nonneg _) | ((show @Eq Nat _ _); first | exact ar_e11 (by assumption) | exact ar_e12 (by assumption) | exact ar_e13 (by assumption) | exact ar_e15 (by assumption) | exact ar_s2 (by assumption) | exact ar_s4 (by assumption) | exact ar_w6 (by assumption) (by assumption) | exact ar_nn (by assumption)) | ((show @Eq Int _ _); first | exact ar_i5 | exact ar_i6 | exact ar_i7 | exact ar_i8 (by assumption)) | ((show ¬ _); first | exact ar_k5 (by assumption) | exact ar_k6 (by assumption) | exact ar_k11 (by assumption) | exact ar_k12 (by assumption) | exact ar_k14 (by assumption) | exact ar_e14 (by assumption) | exact ar_e16 (by assumption) | exact ar_e20 (by assumption) | exact ar_q1 (by assumption) | exact ar_q2 (by assumption) | exact ar_q3 (by assumption) | exact ar_q4 (by assumption) | exact ar_q5 (by assumption) | exact ar_w7 (by assumption) | exact ar_w8 (by assumption) | exact ar_w14 (by assumption) | exact ar_w16 (by assumption) | exact ar_w18 (by assumption) | exact ar_w19 (by assumption) | exact ar_w20 (by assumption) | exact ar_o3 (by assumption) | exact ar_o4 (by assumption) | exact ar_d (by assumption) (by decide) | exact ar_l1 (by assumption) (by assumption) | exact ar_l2 (by assumption) (by assumption) | exact ar_l3 (by assumption) (by assumption) | exact ar_w17 (by assumption) (by assumption) | exact ar_lv (by assumption) (by assumption) (by assumption) | exact ar_nn2 (by assumption)) | ((show _ ∧ _); first | exact ar_w1 (by assumption) | exact ar_w10 (by assumption) | exact ar_w12 (by assumption) | exact ar_w13 (by assumption) | exact ar_o2 (by assumption) | exact ar_w4 (by assumption) (by assumption) | exact ar_i4 (by assumption) (by assumption)) | ((show _ ∨ _); first | exact ar_o1 (by assumption) | exact ar_w3 (by assumption) (by assumption) | exact ar_w5 (by assumption) (by assumption) | exact ar_w9 (by assumption) (by assumption) | exact ar_w11 (by assumption) (by assumption)) | ((show _ ↔ _); first | exact ar_z3 | exact ar_z4 | exact ar_z5) | ((show False); first | exact (ar_f1 (by assumption) (by assumption) (by assumption)).elim | exact (ar_f2 (by assumption) (by assumption) (by assumption)).elim | exact (ar_c1 (by assumption) (by assumption)).elim | exact (ar_c2 (by assumption) (by assumption)).elim | exact (ar_c3 (by assumption) (by assumption)).elim | exact (ar_c4 (by assumption) (by assumption)).elim | exact (ar_c5 (by assumption) (by assumption)).elim | exact (ar_c7 (by assumption) (by assumption)).elim | exact (ar_c8 (by assumption) (by assumption)).elim | exact (ar_c9 (by assumption) (by assumption)).elim | exact (ar_c10 (by assumption) (by assumption)).elim | exact (ar_c11 (by assumption) (by assumption)).elim | exact (ar_c12 (by assumption) (by assumption)).elim | exact (ar_c13 (by assumption) (by assumption)).elim | exact (ar_f3 (by assumption) (by assumption)).elim | exact (ar_f4 (by assumption) (by assumption)).elim | exact (ar_f5 (by assumption) (by assumption)).elim | exact (ar_f6 (by assumption) (by assumption)).elim | exact (ar_f7 (by assumption) (by assumption)).elim | exact (ar_f8 (by assumption) (by assumption)).elim | exact (ar_f9 (by assumption) (by assumption)).elim | exact (ar_f10 (by assumption) (by assumption)).elim) | ((show @Eq _ _ _); first | exact (ar_f1 (by assumption) (by assumption) (by assumption)).elim | exact (ar_f2 (by assumption) (by assumption) (by assumption)).elim | exact (ar_c1 (by assumption) (by assumption)).elim | exact (ar_c2 (by assumption) (by assumption)).elim | exact (ar_c3 (by assumption) (by assumption)).elim | exact (ar_c4 (by assumption) (by assumption)).elim | exact (ar_c5 (by assumption) (by assumption)).elim | exact (ar_c7 (by assumption) (by assumption)).elim | exact (ar_c8 (by assumption) (by assumption)).elim | exact (ar_c9 (by assumption) (by assumption)).elim | exact (ar_c10 (by assumption) (by assumption)).elim | exact (ar_c11 (by assumption) (by assumption)).elim | exact (ar_c12 (by assumption) (by assumption)).elim | exact (ar_c13 (by assumption) (by assumption)).elim | exact (ar_f3 (by assumption) (by assumption)).elim | exact (ar_f4 (by assumption) (by assumption)).elim | exact (ar_f5 (by assumption) (by assumption)).elim | exact (ar_f6 (by assumption) (by assumption)).elim | exact (ar_f7 (by assumption) (by assumption)).elim | exact (ar_f8 (by assumption) (by assumption)).elim | exact (ar_f9 (by assumption) (by assumption)).elim | exact (ar_f10 (by assumption) (by assumption)).elim) | (intro _; first | exact (ar_f1 (by assumption) (by assumption) (by assumption)).elim | exact (ar_f2 (by assumption) (by assumption) (by assumption)).elim | exact (ar_c1 (by assumption) (by assumption)).elim | exact (ar_c2 (by assumption) (by assumption)).elim | exact (ar_c3 (by assumption) (by assumption)).elim | exact (ar_c4 (by assumption) (by assumption)).elim | exact (ar_c5 (by assumption) (by assumption)).elim | exact (ar_c7 (by assumption) (by assumption)).elim | exact (ar_c8 (by assumption) (by assumption)).elim | exact (ar_c9 (by assumption) (by assumption)).elim | exact (ar_c10 (by assumption) (by assumption)).elim | exact (ar_c11 (by assumption) (by assumption)).elim | exact (ar_c12 (by assumption) (by assumption)).elim | exact (ar_c13 (by assumption) (by assumption)).elim | exact (ar_f3 (by assumption) (by assumption)).elim | exact (ar_f4 (by assumption) (by assumption)).elim | exact (ar_f5 (by assumption) (by assumption)).elim | exact (ar_f6 (by assumption) (by assumption)).elim | exact (ar_f7 (by assumption) (by assumption)).elim | exact (ar_f8 (by assumption) (by assumption)).elim | exact (ar_f9 (by assumption) (by assumption)).elim | exact (ar_f10 (by assumption) (by assumption)).elim) | exact ar_i1 (by assumption) | exact ar_i2 (by assumption) | exact ar_i3 (by assumption) (by decide))
  k_with "MINE enter" => (refine' code_def ?zqk1 ?zqk2 ?zqk3 ?zqk4 ?zqk5 ?zqkA ?zqkF ?zqkK ?zqk6 ?zqk7 ?zqk8 ?zqk9 ?zqkB ?_ ?zqc2 ?zqc3 ?zqc4 ?zqc5; (case zqkA => exact rfl); (case zqkF => exact rfl); (case zqkK => assumption); (case zqk1 => k_asm); (case zqk2 => k_asm); (case zqk3 => k_asm); (case zqk4 => k_asm); (case zqk5 => k_asm); (case zqk6 => k_is); (case zqk7 => k_is); (case zqk8 => ktr_room); (case zqk9 => first | exact BindsTo.of_eq rfl | exact binds_K (by k_in) rfl (by k_is) rfl rfl rfl); (case zqc5 => decide); (case zqkB => exact locs rfl); (case zqc2 => exact rfl); (case zqc3 => exact rfl); (case zqc4 => exact rfl); k_whole; intro g' L' h' FG' F' N' B' X' T'; (try dsimp only); (try k_lift B'); (try k_fold))
  k_with "exec While BoolOp cons nil" => (refine stop ?_)
  k_with "exec While Compare cons nil" => (refine stop ?_)
  k_with "MINE same" => (intro z h2 h3; simp only [List.forall_mem_cons, List.not_mem_nil, false_implies, implies_true, and_true, ne_eq] at h2; (try simp only [List.contains_cons, List.contains_nil, Bool.or_false, Bool.or_eq_false_iff, beq_eq_false_iff_ne, ne_eq] at h3); simp [kstB, h2, h3])
  k_with "KswPost" => (refine stop ?_)
  k_with "subscriptTail Name Name str int" => (k_here; (with_unfolding_all refine' item_a ?zqk0 ?zqk1 ?zqk2 ?zqk3 ?_; (case zqk0 => assumption); (case zqk1 => first | rfl | exact Int.natCast_add _ _ | omega); (case zqk2 => omega); (case zqk3 => omega)); intro hItem')
  k_with "subscriptTail Name BinOp str int" => (k_here; (with_unfolding_all refine' item_a (n := _ + 1) ?zqk0 ?zqk1 ?zqk2 ?zqk3 ?_; (case zqk0 => assumption); (case zqk1 => rfl); (case zqk2 => omega); (case zqk3 => omega)); intro hItem')
  k_with "compareOp Eq str str" => (k_here; first | refine eq_c lit_lt ?_ | refine eq_c lit_gt ?_ | refine eq_c lit_bs ?_ | refine eq_c lit_lp ?_ | refine eq_c lit_rp ?_ | refine eq_c lit_nl ?_ | refine eq_c lit_cr ?_ | refine eq_c lit_del ?_ | refine eq_c lit_nul ?_ | refine eq_c lit_blank ?_)
  k_with "compareOp In str str" => (k_here; first | refine in_c _ (in_ws _) ?_ | refine in_c _ (in_bt _) ?_ | refine in_c _ (in_nr _) ?_ | refine in_c _ (in_bad _) ?_ | refine in_c _ (in_punct _) ?_)
  k_with "call builtin:len" => (k_here; (with_reducible show wpAny _ _ (call (Value.builtin "len") [Value.str _ _]) _ _ _); refine len_c (by omega) ?_)
  k_with "call ref" => (k_here; (with_reducible show wpAny _ _ (call (Value.ref _) _ _) _ _ _); refine stop ?_)
  k_with "MINE room" => ((case B => k_asm); (case F => k_asm); (case X => k_asm); (case N => k_asm); (case T => k_asm); (case hk => first | exact rfl | assumption); (case hd => ktr_room); (case hu => ktr_units))
  k_with "getMethod ref" => (k_here; (with_reducible show wpAny _ _ (getMethod _ (Str.ofString "sub") _) _ _ _); k_dflt (refine' getM ?zqF ?zqX ?zql slot_sub type_sub ?_; (case zqF => k_asm); (case zqX => k_asm); (case zql => k_is)))
  k_with "getMethod ref" => (k_here; (with_reducible show wpAny _ _ (getMethod _ (Str.ofString "match") _) _ _ _); k_dflt (refine' getM ?zqF ?zqX ?zql slot_match type_match ?_; (case zqF => k_asm); (case zqX => k_asm); (case zql => k_is)))
  k_with "callWith ref" => (k_here; k_dflt (refine' callWith_K ?zqk1 ?zqk2 ?_; (case zqk1 => k_asm); (case zqk2 => k_is); k_whole))
  k_with "call builtin:list.append" => (k_here; k_dflt (refine' append_T ?zqF ?zqN ?zql ?zqz ?_; (case zqF => k_asm); (case zqN => k_asm); (case zql => assumption); (case zqz => assumption)); intro h' F' N'; (try k_sweep))
  k_with "getMethod ref" => (k_here; (with_reducible show wpAny _ _ (getMethod _ (Str.ofString "group") _) _ _ _); k_dflt (refine' getMm ?zqN ?zqm ?_; (case zqN => k_asm); (case zqm => k_mem)))
  k_with "call builtin:re.Match.group" => (k_here; k_dflt (refine' group_E ?zqz ?zqN ?zqm ?zqn ?_; (case zqN => k_asm); (case zqm => k_mem); (case zqn => k_mem); (case zqz => omega)); intro tk')
  k_with "truthy str" => (k_here; refine truthy_c (by simp [Array.size_extract]; omega) ?_)
  k_with "binaryOp Add str str" => (k_here; refine add_c (by simp [Array.size_extract, lit_nil]; omega) ?_; intro ta' tka')
  k_with "MINE lam" => (refine' kla_code ?zqk1 ?zqk2 ?zqk3 ?zqk4 ?zqk5 ?zqkA ?zqkF ?zqkK ?zqk6 ?zqk7 ?zqk8 ?zqk9 ?zqkB ?_ ?zqc2 ?zqc3 ?zqc4 ?zqc5; (case zqkA => exact rfl); (case zqkF => exact rfl); (case zqkK => exact rfl); (case zqk1 => k_asm); (case zqk2 => k_asm); (case zqk3 => k_asm); (case zqk4 => k_asm); (case zqk5 => k_asm); (case zqk6 => k_mem); (case zqk7 => exact codeRec_news (by k_asm) (by k_mem) (by assumption) (by assumption)); (case zqk8 => ktr_room); (case zqk9 => exact rfl); (case zqc5 => decide); (case zqkB => exact locs rfl); (case zqc2 => exact rfl); (case zqc3 => exact rfl); (case zqc4 => exact rfl); k_whole; intro g' L' h' FG' F' N' B' X' T'; (try dsimp only); (try k_lift B'); (try k_fold))
  k_with "compareOp NotIn str str" => (k_here; first | refine notin_c _ (in_ws _) ?_ | refine notin_c _ (in_bt _) ?_ | refine notin_c _ (in_nr _) ?_ | refine notin_c _ (in_bad _) ?_ | refine notin_c _ (in_punct _) ?_)
  k_with "ite" => (first | (with_reducible refine ite_ff9 ?_) | (with_reducible refine ite_tt9 ?_))
  exact True.intro

theorem lit_sq : Str.ofString "'" = ⟨#[39]⟩ := by decide
theorem lit_dq : Str.ofString "\"" = ⟨#[34]⟩ := by decide
theorem get_closer {c : Nat} {v : Value} {t1 t2 t3 t4 t5 t6 : Tok} (h : PyProof.V.Flat v ((Spec.lookup (PyData.str ⟨#[c]⟩) (strData [(.str (Str.ofString "'") t1, .str (Str.ofString "'") t2), (.str (Str.ofString "\"") t3, .str (Str.ofString "\"") t4), (.str (Str.ofString "(") t5, .str (Str.ofString ")") t6)])).getD .none)) :
    ((c = 39 ∨ c = 34 ∨ c = 40) ∧ ∃ t, v = .str ⟨#[closer c]⟩ t) ∨ (¬ (c = 39 ∨ c = 34 ∨ c = 40) ∧ v = .none) := by
  rw [lit_sq, lit_dq, lit_lp, lit_rp] at h
  simp only [strData, Spec.lookup, datumOf, Option.getD_some] at h
  by_cases h1 : c = 39
  · subst h1
    exact .inl ⟨.inl rfl, PyProof.V.Flat.str_inv h⟩
  · by_cases h2 : c = 34
    · subst h2
      exact .inl ⟨.inr (.inl rfl), PyProof.V.Flat.str_inv h⟩
    · by_cases h3 : c = 40
      · subst h3
        exact .inl ⟨.inr (.inr rfl), PyProof.V.Flat.str_inv h⟩
      · refine .inr ⟨by omega, ?_⟩
        have e1 : Spec.same (PyData.str ⟨#[39]⟩) (PyData.str ⟨#[c]⟩) = false := by simp [Spec.same]; omega
        have e2 : Spec.same (PyData.str ⟨#[34]⟩) (PyData.str ⟨#[c]⟩) = false := by simp [Spec.same]; omega
        have e3 : Spec.same (PyData.str ⟨#[40]⟩) (PyData.str ⟨#[c]⟩) = false := by simp [Spec.same]; omega
        simp only [e1, e2, e3, Bool.false_eq_true, if_false, Option.getD_none] at h
        exact PyProof.V.Flat.none_inv h


theorem nls_dropWs : ∀ us : List U, nls (dropWs us) ≤ nls us
  | [] => Nat.le_refl _
  | u :: r => by
    have ih := nls_dropWs r
    unfold dropWs
    split
    · rw [nls_cons]; omega
    · exact Nat.le_refl _
theorem no_nl {x : Str} : ∀ (r : List U) (j : Nat), At x j r → nls r = 0 → ∀ q, j ≤ q → ∀ h : q < x.cps.size, x.cps[q] ≠ 10 := by
  intro r
  induction r with
  | nil =>
    intro j hA _ q hq h
    rcases hA.split with ⟨_, e⟩ | ⟨_, _, e, _⟩ | ⟨_, _, _, _, e, _⟩
    · omega
    · cases e
    · cases e
  | cons u r ih =>
    intro j hA hn q hq h
    rw [nls_cons] at hn
    rcases hA.split with ⟨e, _⟩ | ⟨hj, r', e, hr, _⟩ | ⟨hj, r', h1, h2, e, hr⟩
    · cases e
    · cases e
      by_cases hqj : q = j
      · subst hqj
        intro h10
        simp [U.is, h10] at hn
      · exact ih (j + 1) hr (by omega) q (by omega) h
    · cases e
      by_cases hqj : q = j
      · subst hqj; omega
      · by_cases hqj1 : q = j + 1
        · subst hqj1
          intro h10
          rw [h10] at h2
          exact absurd h2 (by decide)
        · exact ih (j + 2) hr (by omega) q (by omega) h

def U.ok (u : U) : Prop := u.e = true → esc u.c = true
theorem tok_ok : ∀ cs : List Nat, ∀ u ∈ tok cs, u.ok
  | [], _, h => nomatch h
  | [c], u, h => by rw [List.mem_singleton.mp h]; intro h; cases h
  | c :: d :: r, u, h => by
    have h1 := tok_ok r
    have h2 := tok_ok (d :: r)
    unfold tok at h
    split at h
    · rename_i hh
      rcases List.mem_cons.mp h with rfl | h
      · exact fun _ => hh.2
      · exact h1 u h
    · rcases List.mem_cons.mp h with rfl | h
      · intro h; cases h
      · exact h2 u h
/-- the units of a part of a text -/
theorem tok_prefix : ∀ (cs : List Nat) (a b : List U), tok cs = a ++ b → tok (flat a) = a := by
  intro cs
  induction cs using tok.induct with
  | case1 => intro a b e; cases a with | nil => rfl | cons u a => cases e
  | case2 c =>
    intro a b e
    cases a with
    | nil => rfl
    | cons u a =>
      have e' : [(⟨false, c⟩ : U)] = u :: (a ++ b) := e
      have e1 := (List.cons.inj e').1
      have e2 := (List.cons.inj e').2
      have : a = [] := by cases a with | nil => rfl | cons v a => cases e2
      subst this
      rw [← e1]
      rfl
  | case3 c d r hcd ih =>
    intro a b e
    cases a with
    | nil => rfl
    | cons u a =>
      unfold tok at e
      rw [if_pos hcd] at e
      have e1 := (List.cons.inj e).1
      have e2 := (List.cons.inj e).2
      subst e1
      have := ih a b e2
      show tok (92 :: d :: flat a) = _
      rw [tok_esc hcd.2, this]
  | case4 c d r hcd ih =>
    intro a b e
    cases a with
    | nil => rfl
    | cons u a =>
      unfold tok at e
      rw [if_neg hcd] at e
      have e1 := (List.cons.inj e).1
      have e2 : tok (d :: r) = a ++ b := (List.cons.inj e).2
      subst e1
      have := ih a b e2
      show tok (c :: flat a) = _
      rw [tok_one, this]
      intro h1 d' hd'
      cases a with
      | nil => cases hd'
      | cons v a =>
        have hf : flat (tok (d :: r)) = d :: r := tok_flat _
        rw [e2] at hf
        have hd2 : (flat (v :: a ++ b)).head? = some d := by rw [hf]; rfl
        have hv : v.chars ≠ [] := by unfold U.chars; split <;> simp
        obtain ⟨z, zs, hz⟩ := List.exists_cons_of_ne_nil hv
        have k1 : (flat (v :: a)).head? = some z := by simp [flat, hz]
        have k2 : (flat (v :: a ++ b)).head? = some z := by simp [flat, hz]
        rw [k1] at hd'
        rw [k2] at hd2
        cases hd'
        cases hd2
        cases q : esc d with
        | false => rfl
        | true => exact absurd ⟨h1, q⟩ hcd
theorem At.part {x : Str} {k : Nat} {a b : List U} (h : At x k (a ++ b)) : At ⟨(Mine.flat a).toArray⟩ 0 a := by
  refine ⟨Nat.zero_le _, ?_⟩
  show Mine.tok ((Mine.flat a).drop 0) = a
  rw [List.drop_zero]
  exact tok_prefix _ _ _ h.tok
theorem At.alphaPart {x : Str} (hx : Alpha x) {k : Nat} {a b : List U} (h : At x k (a ++ b)) : Alpha ⟨(Mine.flat a).toArray⟩ := by
  intro i hi
  have e := h.flat
  rw [flat_append] at e
  have hi' : i < (Mine.flat a).length := by simpa using hi
  have h1 : (Mine.flat a ++ Mine.flat b)[i]? = some (Mine.flat a)[i] := by
    rw [List.getElem?_append_left hi']
    exact List.getElem?_eq_getElem hi'
  rw [e] at h1
  have h2 : x.cps.toList[k + i]? = some (Mine.flat a)[i] := by rw [← h1]; simp
  have h3 : k + i < x.cps.size := by
    have := (List.getElem?_eq_some_iff.mp h2).1
    simpa using this
  have h4 : x.cps[k + i] = (Mine.flat a)[i] := by
    have := (List.getElem?_eq_some_iff.mp h2).2
    simpa using this
  have := hx (k + i) h3
  rw [h4] at this
  simpa using this
theorem At.sizePart {x : Str} {k : Nat} {a b : List U} (h : At x k (a ++ b)) : (Mine.flat a).length ≤ x.cps.size := by
  have e := congrArg List.length h.flat
  rw [flat_append] at e
  simp at e
  omega

def titleAt (us : List U) : Option (List U × List U) :=
  match us with
  | [] => none
  | u :: _ => if u.ws = false then none else match dropWs us with
    | [] => none
    | o :: r => if isOp o then title o.c r else none

theorem join_c {prog : Program} {w : World} {A : Around} {E : Value → Shared → Prop} {s : Shared} {h₀ : Heap} {L l : Addr} {t : Tok} {news : List (Addr × Obj)} {pcs : List Value} {ys : List Str} {n : Nat} {Q : Value → Shared → Prop} (N : News h₀ L s.heap news) (hm : (l, listOf pcs.toArray n) ∈ news)
    (hs : StrsAre pcs ys) (hz : (cat ys).length < 1000) (h : ∀ t' k, Q (.str ⟨(cat ys).toArray⟩ t') { s with toks := k }) : wpAny (model prog w) A (call (.builtin "str.join") [.str (Str.ofString "") t, .ref l]) Q E s := by
  rw [lit_nil]
  refine join_list (x := ⟨#[]⟩) ⟨_, N.get hm, rfl, _, rfl⟩ hs (by rw [sum_cat]; simp [Str.length]; omega) fun t' k => ?_
  have e1 : (⟨(cat ys).toArray⟩ : Str) = Txt.join ⟨#[]⟩ ys := by rw [← join_cat]; rfl
  rw [← e1]
  exact h t' k

theorem words_s_title_1 : True := by
  k_with_none
  w_top off
  k_with "MINE ar" => (with_reducible first | assumption | decide | ((show @LT.lt Nat _ _ _); first | exact ar_n1 (by assumption) | exact ar_n2 (by assumption) | exact ar_n6 (by assumption) | exact ar_n12 (by assumption) | exact ar_n13 (by assumption) | exact ar_k1 (by assumption) | exact ar_k2 (by assumption) | exact ar_k3 (by assumption) | exact ar_k4 (by assumption) | exact ar_k8 (by assumption) | exact ar_m1 (by assumption) | exact ar_m2 (by assumption) | exact ar_m3 (by assumption) | exact ar_m4 (by assumption) | exact ar_m5 (by assumption) | exact ar_e4 (by assumption) | exact ar_e5 (by assumption) | exact ar_r1 (by assumption) | exact Nat.lt_succ_self _ | exact ar_r2 (by assumption) (by decide) | exact ar_r3 (by assumption) (by decide) | exact ar_n7 (by assumption) (by assumption) | exact ar_n8 (by assumption) (by assumption) | exact ar_n16 (by assumption) (by assumption) | exact ar_n20 (by assumption) (by assumption) | exact ar_n21 (by assumption) (by assumption) | exact ar_n23 (by assumption) (by assumption) | exact ar_n24 (by assumption) (by assumption) | exact ar_e17 (by assumption) (by assumption) | exact ar_e19 (by assumption) (by assumption) | exact ar_n14 (by assumption) (by assumption) (by assumption) | exact ar_n26 (by assumption) (by assumption) (by assumption) | exact ar_n27 (by assumption) (by assumption) (by assumption) | exact ar_n15 (by assumption) (by assumption) (by assumption) (by assumption) | exact ar_n22 (by assumption) (by assumption) (by assumption) (by assumption)) | ((show @LE.le Nat _ _ _); first | exact Nat.le_refl _ | exact Nat.le_add_right _ _ | exact ar_n3 (by assumption) | exact ar_n4 (by assumption) | exact ar_n5 (by assumption) | exact ar_k7 (by assumption) | exact ar_k10 (by assumption) | exact ar_k13 (by assumption) | exact ar_e1 (by assumption) | exact ar_e2 (by assumption) | exact ar_e3 (by assumption) | exact ar_e6 (by assumption) | exact ar_e7 (by assumption) | exact ar_e8 (by assumption) | exact ar_s1 (by assumption) | exact ar_w2 (by assumption) | exact ar_n25 (by assumption) | exact ar_n9 (by assumption) (by assumption) | exact ar_n17 (by assumption) (by assumption) | exact ar_n28 (by assumption) (by assumption) | exact ar_e9 (by assumption) (by assumption) | exact ar_e10 (by assumption) (by assumption) | exact ar_e18 (by assumption) (by assumption) | exact ar_s3 (by assumption) (by assumption) | exact ar_n10 (by assumption) (by assumption) (by assumption) | exact ar_n11 (by assumption) (by assumption) (by assumption)) | ((show @LT.lt Int _ _ _); first | exact ar_k9 (by assumption) | exact ar_n18 (by assumption) | exact ar_n19 (by assumption) (by assumption)) | ((show @LE.le Int _ _ _); first | exact Int.natCast_nonneg _) | ((show @Eq Nat _ _); first | exact ar_e11 (by assumption) | exact ar_e12 (by assumption) | exact ar_e13 (by assumption) | exact ar_e15 (by assumption) | exact ar_s2 (by assumption) | exact ar_s4 (by assumption) | exact ar_w6 (by assumption) (by assumption) | exact ar_nn (by assumption)) | ((show @Eq Int _ _); first | exact ar_i5 | exact ar_i6 | exact ar_i7 | exact ar_i8 (by assumption)) | ((show ¬ _); first | exact ar_k5 (by assumption) | exact ar_k6 (by assumption) | exact ar_k11 (by assumption) | exact ar_k12 (by assumption) | exact ar_k14 (by assumption) | exact ar_e14 (by assumption) | exact ar_e16 (by assumption) | exact ar_e20 (by assumption) | exact ar_q1 (by assumption) | exact ar_q2 (by assumption) | exact ar_q3 (by assumption) | exact ar_q4 (by assumption) | exact ar_q5 (by assumption) | exact ar_w7 (by assumption) | exact ar_w8 (by assumption) | exact ar_w14 (by assumption) | exact ar_w16 (by assumption) | exact ar_w18 (by assumption) | exact ar_w19 (by assumption) | exact ar_w20 (by assumption) | exact ar_o3 (by assumption) | exact ar_o4 (by assumption) | exact ar_d (by assumption) (by decide) | exact ar_l1 (by assumption) (by assumption) | exact ar_l2 (by assumption) (by assumption) | exact ar_l3 (by assumption) (by assumption) | exact ar_w17 (by assumption) (by assumption) | exact ar_lv (by assumption) (by assumption) (by assumption) | exact ar_nn2 (by assumption)) | ((show _ ∧ _); first | exact ar_w1 (by assumption) | exact ar_w10 (by assumption) | exact ar_w12 (by assumption) | exact ar_w13 (by assumption) | exact ar_o2 (by assumption) | exact ar_w4 (by assumption) (by assumption) | exact ar_i4 (by assumption) (by assumption)) | ((show _ ∨ _); first | exact ar_o1 (by assumption) | exact ar_w3 (by assumption) (by assumption) | exact ar_w5 (by assumption) (by assumption) | exact ar_w9 (by assumption) (by assumption) | exact ar_w11 (by assumption) (by assumption)) | ((show _ ↔ _); first | exact ar_z3 | exact ar_z4 | exact ar_z5) | ((show False); first | exact (ar_f1 (by assumption) (by assumption) (by assumption)).elim | exact (ar_f2 (by assumption) (by assumption) (by assumption)).elim | exact (ar_c1 (by assumption) (by assumption)).elim | exact (ar_c2 (by assumption) (by assumption)).elim | exact (ar_c3 (by assumption) (by assumption)).elim | exact (ar_c4 (by assumption) (by assumption)).elim | exact (ar_c5 (by assumption) (by assumption)).elim | exact (ar_c7 (by assumption) (by assumption)).elim | exact (ar_c8 (by assumption) (by assumption)).elim | exact (ar_c9 (by assumption) (by assumption)).elim | exact (ar_c10 (by assumption) (by assumption)).elim | exact (ar_c11 (by assumption) (by assumption)).elim | exact (ar_c12 (by assumption) (by assumption)).elim | exact (ar_c13 (by assumption) (by assumption)).elim | exact (ar_f3 (by assumption) (by assumption)).elim | exact (ar_f4 (by assumption) (by assumption)).elim | exact (ar_f5 (by assumption) (by assumption)).elim | exact (ar_f6 (by assumption) (by assumption)).elim | exact (ar_f7 (by assumption) (by assumption)).elim | exact (ar_f8 (by assumption) (by assumption)).elim | exact (ar_f9 (by assumption) (by assumption)).elim | exact (ar_f10 (by assumption) (by assumption)).elim) | ((show @Eq _ _ _); first | exact (ar_f1 (by assumption) (by assumption) (by assumption)).elim | exact (ar_f2 (by assumption) (by assumption) (by assumption)).elim | exact (ar_c1 (by assumption) (by assumption)).elim | exact (ar_c2 (by assumption) (by assumption)).elim | exact (ar_c3 (by assumption) (by assumption)).elim | exact (ar_c4 (by assumption) (by assumption)).elim | exact (ar_c5 (by assumption) (by assumption)).elim | exact (ar_c7 (by assumption) (by assumption)).elim | exact (ar_c8 (by assumption) (by assumption)).elim | exact (ar_c9 (by assumption) (by assumption)).elim | exact (ar_c10 (by assumption) (by assumption)).elim | exact (ar_c11 (by assumption) (by assumption)).elim | exact (ar_c12 (by assumption) (by assumption)).elim | exact (ar_c13 (by assumption) (by assumption)).elim | exact (ar_f3 (by assumption) (by assumption)).elim | exact (ar_f4 (by assumption) (by assumption)).elim | exact (ar_f5 (by assumption) (by assumption)).elim | exact (ar_f6 (by assumption) (by assumption)).elim | exact (ar_f7 (by assumption) (by assumption)).elim | exact (ar_f8 (by assumption) (by assumption)).elim | exact (ar_f9 (by assumption) (by assumption)).elim | exact (ar_f10 (by assumption) (by assumption)).elim) | (intro _; first | exact (ar_f1 (by assumption) (by assumption) (by assumption)).elim | exact (ar_f2 (by assumption) (by assumption) (by assumption)).elim | exact (ar_c1 (by assumption) (by assumption)).elim | exact (ar_c2 (by assumption) (by assumption)).elim | exact (ar_c3 (by assumption) (by assumption)).elim | exact (ar_c4 (by assumption) (by assumption)).elim | exact (ar_c5 (by assumption) (by assumption)).elim | exact (ar_c7 (by assumption) (by assumption)).elim | exact (ar_c8 (by assumption) (by assumption)).elim | exact (ar_c9 (by assumption) (by assumption)).elim | exact (ar_c10 (by assumption) (by assumption)).elim | exact (ar_c11 (by assumption) (by assumption)).elim | exact (ar_c12 (by assumption) (by assumption)).elim | exact (ar_c13 (by assumption) (by assumption)).elim | exact (ar_f3 (by assumption) (by assumption)).elim | exact (ar_f4 (by assumption) (by assumption)).elim | exact (ar_f5 (by assumption) (by assumption)).elim | exact (ar_f6 (by assumption) (by assumption)).elim | exact (ar_f7 (by assumption) (by assumption)).elim | exact (ar_f8 (by assumption) (by assumption)).elim | exact (ar_f9 (by assumption) (by assumption)).elim | exact (ar_f10 (by assumption) (by assumption)).elim) | exact ar_i1 (by assumption) | exact ar_i2 (by assumption) | exact ar_i3 (by assumption) (by decide))
  k_with "MINE enter" => (refine' code_def ?zqk1 ?zqk2 ?zqk3 ?zqk4 ?zqk5 ?zqkA ?zqkF ?zqkK ?zqk6 ?zqk7 ?zqk8 ?zqk9 ?zqkB ?_ ?zqc2 ?zqc3 ?zqc4 ?zqc5; (case zqkA => exact rfl); (case zqkF => exact rfl); (case zqkK => assumption); (case zqk1 => k_asm); (case zqk2 => k_asm); (case zqk3 => k_asm); (case zqk4 => k_asm); (case zqk5 => k_asm); (case zqk6 => k_is); (case zqk7 => k_is); (case zqk8 => ktr_room); (case zqk9 => first | exact BindsTo.of_eq rfl | exact binds_K (by k_in) rfl (by k_is) rfl rfl rfl); (case zqc5 => decide); (case zqkB => exact locs rfl); (case zqc2 => exact rfl); (case zqc3 => exact rfl); (case zqc4 => exact rfl); k_whole; intro g' L' h' FG' F' N' B' X' T'; (try dsimp only); (try k_lift B'); (try k_fold))
  k_with "exec While BoolOp cons nil" => (refine stop ?_)
  k_with "exec While Compare cons nil" => (refine stop ?_)
  k_with "MINE same" => (intro z h2 h3; simp only [List.forall_mem_cons, List.not_mem_nil, false_implies, implies_true, and_true, ne_eq] at h2; (try simp only [List.contains_cons, List.contains_nil, Bool.or_false, Bool.or_eq_false_iff, beq_eq_false_iff_ne, ne_eq] at h3); simp [kstB, h2, h3])
  k_with "KswPost" => (refine stop ?_)
  k_with "subscriptTail Name Name str int" => (k_here; (with_unfolding_all refine' item_a ?zqk0 ?zqk1 ?zqk2 ?zqk3 ?_; (case zqk0 => assumption); (case zqk1 => first | rfl | exact Int.natCast_add _ _ | omega); (case zqk2 => omega); (case zqk3 => omega)); intro hItem')
  k_with "subscriptTail Name BinOp str int" => (k_here; (with_unfolding_all refine' item_a (n := _ + 1) ?zqk0 ?zqk1 ?zqk2 ?zqk3 ?_; (case zqk0 => assumption); (case zqk1 => rfl); (case zqk2 => omega); (case zqk3 => omega)); intro hItem')
  k_with "compareOp Eq str str" => (k_here; first | refine eq_c lit_lt ?_ | refine eq_c lit_gt ?_ | refine eq_c lit_bs ?_ | refine eq_c lit_lp ?_ | refine eq_c lit_rp ?_ | refine eq_c lit_nl ?_ | refine eq_c lit_cr ?_ | refine eq_c lit_del ?_ | refine eq_c lit_nul ?_ | refine eq_c lit_blank ?_)
  k_with "compareOp In str str" => (k_here; first | refine in_c _ (in_ws _) ?_ | refine in_c _ (in_bt _) ?_ | refine in_c _ (in_nr _) ?_ | refine in_c _ (in_bad _) ?_ | refine in_c _ (in_punct _) ?_)
  k_with "call builtin:len" => (k_here; (with_reducible show wpAny _ _ (call (Value.builtin "len") [Value.str _ _]) _ _ _); refine len_c (by omega) ?_)
  k_with "call ref" => (k_here; (with_reducible show wpAny _ _ (call (Value.ref _) _ _) _ _ _); refine stop ?_)
  k_with "MINE room" => ((case B => k_asm); (case F => k_asm); (case X => k_asm); (case N => k_asm); (case T => k_asm); (case hk => first | exact rfl | assumption); (case hd => ktr_room); (case hu => ktr_units))
  k_with "getMethod ref" => (k_here; (with_reducible show wpAny _ _ (getMethod _ (Str.ofString "sub") _) _ _ _); k_dflt (refine' getM ?zqF ?zqX ?zql slot_sub type_sub ?_; (case zqF => k_asm); (case zqX => k_asm); (case zql => k_is)))
  k_with "getMethod ref" => (k_here; (with_reducible show wpAny _ _ (getMethod _ (Str.ofString "match") _) _ _ _); k_dflt (refine' getM ?zqF ?zqX ?zql slot_match type_match ?_; (case zqF => k_asm); (case zqX => k_asm); (case zql => k_is)))
  k_with "callWith ref" => (k_here; k_dflt (refine' callWith_K ?zqk1 ?zqk2 ?_; (case zqk1 => k_asm); (case zqk2 => k_is); k_whole))
  k_with "call builtin:list.append" => (k_here; k_dflt (refine' append_T ?zqF ?zqN ?zql ?zqz ?_; (case zqF => k_asm); (case zqN => k_asm); (case zql => assumption); (case zqz => assumption)); intro h' F' N'; (try k_sweep))
  k_with "getMethod ref" => (k_here; (with_reducible show wpAny _ _ (getMethod _ (Str.ofString "group") _) _ _ _); k_dflt (refine' getMm ?zqN ?zqm ?_; (case zqN => k_asm); (case zqm => k_mem)))
  k_with "call builtin:re.Match.group" => (k_here; k_dflt (refine' group_E ?zqz ?zqN ?zqm ?zqn ?_; (case zqN => k_asm); (case zqm => k_mem); (case zqn => k_mem); (case zqz => omega)); intro tk')
  k_with "truthy str" => (k_here; refine truthy_c (by simp [Array.size_extract]; omega) ?_)
  k_with "binaryOp Add str str" => (k_here; refine add_c (by simp [Array.size_extract, lit_nil]; omega) ?_; intro ta' tka')
  k_with "MINE lam" => (refine' kla_code ?zqk1 ?zqk2 ?zqk3 ?zqk4 ?zqk5 ?zqkA ?zqkF ?zqkK ?zqk6 ?zqk7 ?zqk8 ?zqk9 ?zqkB ?_ ?zqc2 ?zqc3 ?zqc4 ?zqc5; (case zqkA => exact rfl); (case zqkF => exact rfl); (case zqkK => exact rfl); (case zqk1 => k_asm); (case zqk2 => k_asm); (case zqk3 => k_asm); (case zqk4 => k_asm); (case zqk5 => k_asm); (case zqk6 => k_mem); (case zqk7 => exact codeRec_news (by k_asm) (by k_mem) (by assumption) (by assumption)); (case zqk8 => ktr_room); (case zqk9 => exact rfl); (case zqc5 => decide); (case zqkB => exact locs rfl); (case zqc2 => exact rfl); (case zqc3 => exact rfl); (case zqc4 => exact rfl); k_whole; intro g' L' h' FG' F' N' B' X' T'; (try dsimp only); (try k_lift B'); (try k_fold))
  k_with "compareOp NotIn str str" => (k_here; first | refine notin_c _ (in_ws _) ?_ | refine notin_c _ (in_bt _) ?_ | refine notin_c _ (in_nr _) ?_ | refine notin_c _ (in_bad _) ?_ | refine notin_c _ (in_punct _) ?_)
  k_with "ite" => (first | (with_reducible refine ite_ff9 ?_) | (with_reducible refine ite_tt9 ?_))
  exact True.intro

theorem title_cons {op : Nat} {u : U} {r : List U} : title op (u :: r) = if u.is (closer op) then some ([], r) else if op = 40 ∧ u.is 40 = true then none else (title op r).map fun p => (u :: p.1, p.2) := rfl
theorem item_b {prog : Program} {w : World} {A : Around} {E : Value → Shared → Prop} {s : Shared} {x : Str} {t u : Tok} {value slice : Expr} {Q : Value → Shared → Prop} {k : Int} {n : Nat} (ha : Alpha x) (hn : k = (n : Int)) (hk : n < x.cps.size) (hs' : x.cps.size < 1000)
    (h : 10 ≤ x.cps[n] → Q (.str ⟨#[x.cps[n]]⟩ s.toks) { s with toks := s.toks + 1 })
    (hs : subscripted slice false (.str x t) (.int k u) = operate [.str x t, .int k u] (getItem (.str x t) (.int k u)) := by with_unfolding_all rfl)
    (ht : ∀ r, letTemporaryGo value (.str x t) r = pure () := by intro _; with_unfolding_all rfl) :
    wpAny (model prog w) A (subscriptTail value slice (.str x t) (.int k u)) Q E s := item_a ha hn hk hs' (fun h' => h (by omega)) hs ht
theorem words_s_title_2 : True := by
  k_with "subscriptTail Name Name str int" => (k_here; (with_unfolding_all refine' item_b ?zqk0 ?zqk1 ?zqk2 ?zqk3 ?_; (case zqk0 => assumption); (case zqk1 => first | rfl | exact Int.natCast_add _ _ | omega); (case zqk2 => omega); (case zqk3 => omega)); intro hItem')
  k_with "subscriptTail Name BinOp str int" => (k_here; (with_unfolding_all refine' item_b (n := _ + 1) ?zqk0 ?zqk1 ?zqk2 ?zqk3 ?_; (case zqk0 => assumption); (case zqk1 => rfl); (case zqk2 => omega); (case zqk3 => omega)); intro hItem')
  exact True.intro
theorem blank_rule {w : World} {A : Around} {E : Value → Shared → Prop} {s : Shared} {K : Frag} {h₀ : Heap} {L : Addr} {m : Str → Option Value} {x : Str} {t u v : Tok} {k : Nat} {us : List U} {Q : Value → Shared → Prop} {v0 f : Value} {sl sl2 : Array (Option Value)} {tc : Value} {od : Option Addr} {vs : Array Value} {n : Nat} {c : Addr}
    (F : Fr h₀ L s.heap m) (X : K.In h₀) (h1 : K.lookup 74 = some ⟨.type "re.Pattern", none, .fields #[v0, f, .int ((0 : Nat) : Int) 0, .none, .none, .ref c, .int 0 0], sl⟩) (h2 : K.lookup c = some ⟨tc, od, .seq vs n, sl2⟩)
    (h3 : (vs.map Builtin.Re.reRawOf).map (·.toNat) = codeB) (hA : At x k us) (hn : nls us ≤ 1) (hk : k < x.cps.size) (h10 : x.cps[k] = 10) (hs : x.cps.size < 1000)
    (h : Q .none s) : wpAny (model PySem.Challenge.rw_ba0041_01.row.prog w) A (call (.builtin "re.Pattern.match") [.ref 74, .str x t, .int k u, .int (x.cps.size : Nat) v]) Q E s := by
  refine match_none ((IsPat.of (groups := 0) X h1 h2 h3).keeps F.keep) hk h10 (fun q h1 h2 => ?_) hs h
  obtain ⟨r, rfl, hr⟩ := hA.one hk (by intro h; omega)
  rw [nls_cons, h10] at hn
  have : nls r = 0 := by simp [U.is] at hn; omega
  rw [Array.getElem?_eq_getElem h2]
  have := no_nl r (k + 1) hr this q (by omega) h2
  simpa using this
theorem words_s_title_3 : True := by
  k_with "call builtin:re.Pattern.match" => (k_here; k_dflt (refine' blank_rule ?zqF ?zqX ?zqh1 ?zqh2 ?zqh3 ?zqhA ?zqhn ?zqhk ?zqh10 ?zqhs ?_; (case zqF => k_asm); (case zqX => k_asm); (case zqh1 => k_is); (case zqh2 => k_is); (case zqh3 => decide +kernel); (case zqhA => assumption); (case zqhn => assumption); (case zqhk => omega); (case zqh10 => assumption); (case zqhs => omega)))
  k_with "compareOp Eq str str" => (k_here; (with_reducible show wpAny _ _ (compareOp _ _ (Value.str (Str.mk #[closer _]) _)) _ _ _); refine eq_c (n := closer _) rfl ?_)
  k_with "call builtin:str.join" => (k_here; k_dflt (refine' join_c ?zqN ?zqm ?zqs ?zqz ?_; (case zqN => k_asm); (case zqm => k_mem); (case zqs => assumption); (case zqz => assumption)); intro tj' tkj')
  exact True.intro

theorem titleAt_nil {us : List U} (h : dropWs us = []) : titleAt us = none := by
  unfold titleAt
  rw [h]
  cases us with
  | nil => rfl
  | cons u r => dsimp only; split <;> rfl
theorem titleAt_not {u : U} {r : List U} (h : u.ws = false) : titleAt (u :: r) = none := by unfold titleAt; simp [h]
theorem titleAt_cons {us : List U} {o : U} {r : List U} (h : dropWs us = o :: r) (hw : ∃ u r1, us = u :: r1 ∧ u.ws = true) : titleAt us = if isOp o then title o.c r else none := by
  obtain ⟨u, r1, rfl, hw⟩ := hw
  unfold titleAt
  rw [h]
  simp [hw]
theorem TabBlock.lt {T news : List (Addr × Obj)} {x : Addr} (h : TabBlock T) (l : ∀ q ∈ news ++ T, q.1 < x) : x ≠ 76 := by
  have : ∃ o, (76, o) ∈ T := by
    rcases h with rfl | ⟨_, _, _, _, rfl, _⟩
    · exact ⟨_, .head _⟩
    · exact ⟨_, .head _⟩
  obtain ⟨o, ho⟩ := this
  have := l _ (List.mem_append_right _ ho)
  exact Nat.ne_of_gt this
theorem words_s_title_4 : True := by
  k_with "MINE tNone" => (
    rename News h₀ L _ _ => N9
    refine hret _ [_] Tb _ _ (by assumption) (by first | exact N9 | exact drop1 N9 | exact drop2 N9) hT (fun q hq p hp => by rw [List.mem_singleton.mp hp]; exact l12 q (List.mem_append_left _ hq)) (fun p hp => by rw [List.mem_singleton.mp hp]; exact hT.lt l12) ⟨_, rfl, ?_⟩
    rw [eN])
  k_with "MINE tOne" => (
    refine unstop ?_
    dsimp only [KswPost]
    have hkk : k < src.cps.size := by omega
    obtain ⟨r, rfl, ha'⟩ := ha.one hkk (by
      intro h1 h2
      first
        | omega
        | (cases q : esc src.cps[k + 1] with
           | false => rfl
           | true => exact absurd ((esc_punct (hal _ h2)).mpr q) (by assumption)))
    rename News _ _ _ _ => nE'
    refine ksw_end ⟨k + 1, _, pre ++ [⟨false, src.cps[k]⟩], r, _, _⟩ (by assumption) nE' (fun _ h => h) trivial (by kst_all) (by walk_at "MINE same") ⟨ha', ?_, ?_, by dsimp only; omega, ?_, ys ++ [⟨#[src.cps[k]]⟩], hys.append' (.cons _ _ .nil), ?_, ?_⟩ (by dsimp only; omega)
    · dsimp only; rw [hb]; simp
    · dsimp only
      rw [hc, title_cons, if_neg (by simp [U.is]; omega), if_neg (by simp [U.is]; omega)]
      cases title src.cps[n9] r <;> simp
    · dsimp only; rw [nls_cons] at hnn; omega
    · dsimp only; rw [cat_append, hcat, flat_append]; simp [cat, flat, U.chars]
    · dsimp only; simp; omega)
  k_with "MINE tEsc" => (
    refine unstop ?_
    dsimp only [KswPost]
    have hk1 : k + 1 < src.cps.size := by omega
    have h92 : src.cps[k] = 92 := by assumption
    have hp : Punct src.cps[k + 1] := by assumption
    obtain ⟨r, rfl, ha'⟩ := ha.two hk1 h92 ((esc_punct (hal _ hk1)).mp hp)
    have e2 : Txt.slice src (some (k : Int)) (some ((k : Int) + 2)) = ⟨#[92, src.cps[k + 1]]⟩ := by
      have := txt_slice (x := src) (a := k) (b := k + 2) (by omega) (by omega)
      refine Eq.trans ?_ (this.trans ?_)
      · rfl
      · have e3 : src.cps.extract k (k + 2) = (flat [⟨true, src.cps[k + 1]⟩]).toArray := At.between ha ha' (by omega)
        rw [e3]; rfl
    rename News _ _ _ _ => nE'
    rw [e2] at nE'
    refine ksw_end ⟨k + 2, _, pre ++ [⟨true, src.cps[k + 1]⟩], r, _, _⟩ (by assumption) nE' (fun _ h => h) trivial (by kst_all) (by walk_at "MINE same") ⟨ha', ?_, ?_, by dsimp only; omega, ?_, ys ++ [⟨#[92, src.cps[k + 1]]⟩], hys.append' (.cons _ _ .nil), ?_, ?_⟩ (by dsimp only; omega)
    · dsimp only; rw [hb]; simp
    · dsimp only
      rw [hc, title_cons, if_neg (by simp [U.is]), if_neg (by simp [U.is])]
      cases title src.cps[n9] r <;> simp
    · dsimp only; rw [nls_cons] at hnn; omega
    · dsimp only; rw [cat_append, hcat, flat_append]; simp [cat, flat, U.chars]
    · dsimp only; simp; omega)
  k_with "MINE tClose" => (
    refine unstop ?_
    have hkk : k < src.cps.size := by omega
    obtain ⟨r, rfl, ha'⟩ := ha.one hkk (by intro h1; omega)
    have eS : titleAt us = some (pre, r) := by
      rw [eT, hc, title_cons, if_pos (by simp [U.is]; omega)]; simp
    rw [hcat]
    rw [hb] at ha0
    k_dflt (refine' SpecT.use (unesc_spec (ha0.alphaPart hal) (by have := ha0.sizePart; simp; omega) ha0.part) ((lT, listOf pcs.toArray ep) :: news) Tb ?B ?F ?X ?N ?T ?hk ?hd ?hu ?hC ?hT ?h76 ?hsub ?_; walk_at "MINE room"; (case hC => k_asm); (case hT => exact hT); (case h76 => intro q hq; rcases List.mem_cons.mp hq with rfl | hq; exact hT.lt (ktn_ltOf lT0.2); exact h76 q hq); (case hsub => exact fun q hq => hq))
    rintro r11 tl11 T11 h11 tk11 F11 N11 hT11 l11 z11 ⟨rfl, t11, rfl⟩
    simp only [List.nil_append, List.cons_append] at N11
    try k_fold
    k_steps
    refine unstop ?_
    dsimp only [KswPost]
    rename News _ _ _ ((lT, _) :: (news ++ T11)) => N8
    have l12 : ∀ q ∈ news ++ T11, q.1 < _ := fun q hq => Heap.lt_size (N8 q (.tail _ hq)).1
    k_steps
    rename News h₀ L _ _ => N9
    refine hret _ [_] T11 _ _ (by assumption) (drop2 N9) hT11 (fun q hq p hp => by rw [List.mem_singleton.mp hp]; exact l12 q (List.mem_append_left _ hq)) (fun p hp => by rw [List.mem_singleton.mp hp]; exact hT11.lt l12) ⟨_, rfl, ?_⟩
    rw [eS]
    exact ⟨_, _, _, rfl, ha', by omega⟩)
  exact True.intro
set_option maxHeartbeats 8000000 in
theorem title_spec {w : World} {p : Program} {loose : List Str} {mean : ExcName → Option Value} {mg mb : Str → Option Value} {src : Str} {st pt mt : Tok} {pos : Nat} {us : List U}
   (hA : At src pos us) (hsz : src.cps.size < 100) (hal : Alpha src) (hnl : nls us ≤ 1) :
   SpecT w p loose mean mg mb 97 3 [.str src st, .int pos pt, .int (src.cps.size : Nat) mt] (fun tl r => ∃ a, r = .ref a ∧ match titleAt us with
     | none => tl = [(a, tupObj [.none, .none])]
     | some (g, rest) => ∃ (n : Nat) (t t2 : Tok), tl = [(a, tupObj [.str ⟨(plain g).toArray⟩ t, .int n t2])] ∧ At src n rest ∧ pos < n) := by
  unfold SpecT
  k_fill
  intro dp un gd cn cs a ccd cl outer A₀ base h₀ L m news Tb s Q E B F X N T hk hd hu hC hT h76 hret
  refine wpAny_call ?_
  k_dflt walk_at "MINE enter"
  k_steps
  · have eN : titleAt us = none := by rw [hA.end_ (by omega)]; rfl
    rename (∀ p ∈ news ++ Tb, p.1 < _) => l12
    walk_at "MINE tNone"
  · have eN : titleAt us = none := by
      rcases hA.split with ⟨e, _⟩ | ⟨hk, r0, e0, _, _⟩ | ⟨hk, r0, h92, _, e0, _⟩
      · rw [e]; rfl
      · rw [e0]; exact titleAt_not (by simp [U.ws]; omega)
      · rw [e0]; exact titleAt_not (by simp [U.ws])
    rename (∀ p ∈ news ++ Tb, p.1 < _) => l12
    walk_at "MINE tNone"
  · have hw : ∃ u r1, us = u :: r1 ∧ u.ws = true := by
      obtain ⟨r1, e1, _⟩ := hA.one (by omega) (by intro h1; omega)
      exact ⟨_, r1, e1, ws_of (hal _ (by omega)) (Classical.not_not.mp (by assumption))⟩
    refine unstop ?_
    k_dflt (refine' SpecOf.use (skip_spec hA hsz hal ⟨_, rfl⟩) ?B ?F ?X ?N ?T ?hk ?hd ?hu ?_; walk_at "MINE room")
    rintro r9 tl9 h9 tk9 F9 N9 l9 ⟨rfl, n9, t9, rfl, hAt, hle⟩
    simp only [List.nil_append] at N9
    try k_fold
    k_steps
    · have eN : titleAt us = none := titleAt_nil (hAt.end_ (by omega))
      rename (∀ p ∈ news ++ Tb, p.1 < _) => l12
      walk_at "MINE tNone"
    · rename PyProof.V.Flat _ _ => hv9
      have hk0 : n9 < src.cps.size := by omega
      rcases get_closer hv9 with ⟨hop, t10, rfl⟩ | ⟨hop, rfl⟩
      · clear hv9
        obtain ⟨r0, e0, ha0⟩ := hAt.one hk0 (by intro h1; omega)
        have hnl0 : nls r0 ≤ 1 := by
          have h1 := nls_dropWs us
          rw [e0, nls_cons] at h1
          omega
        k_steps
        refine unstop ?_
        rename Fr _ _ _ _ => F1
        rename News _ _ _ _ => N1
        rename (_ ∧ AllLt _ (news ++ Tb)) => lT0
        obtain ⟨lT, hlt⟩ := addrOf N1
        subst hlt
        have hlT : ∀ q ∈ news ++ Tb, q.1 ≠ lT := fun q hq => Nat.ne_of_lt (ktn_ltOf lT0.2 q hq)
        have hcd := F1
        refine ksw_while (σ := Nat × Tok × List U × List U × List Value × Nat) (fun c => (lT, listOf c.2.2.2.2.1.toArray c.2.2.2.2.2) :: (news ++ Tb)) (fun c => [("pos", .int c.1 c.2.1)]) (fun _ => True) ["c"]
          (fun c => At src c.1 c.2.2.2.1 ∧ r0 = c.2.2.1 ++ c.2.2.2.1 ∧ title src.cps[n9] r0 = (title src.cps[n9] c.2.2.2.1).map (fun q => (c.2.2.1 ++ q.1, q.2)) ∧ n9 + 1 ≤ c.1 ∧ nls c.2.2.2.1 ≤ 1 ∧ ∃ ys, StrsAre c.2.2.2.2.1 ys ∧ cat ys = flat c.2.2.1 ∧ ys.length ≤ c.1)
          (fun c => src.cps.size - c.1) (n9 + 1, _, [], r0, [], 0) F1 (drop2 N1) trivial (by kst_all) ⟨ha0, rfl, by simp, Nat.le_refl _, hnl0, [], .nil, rfl, Nat.zero_le _⟩ ?_
        rintro ⟨k, t, pre, us', pcs, ep⟩ u h tk _ ⟨ha, hb, hc, hn, hnn, ys, hys, hcat, hyl⟩ F2 N2
        dsimp only at ha hb hc hn hnn hys hcat hyl F2 N2
        have hpl : pcs.length < 1000 := by have := hys.length; have := ha.le; omega
        have hcz : (cat ys).length < 1000 := by
          rw [hcat]
          have := At.sizePart (a := pre) (b := us') (by rw [← hb]; exact ha0)
          omega
        try k_fold
        have eT : titleAt us = title src.cps[n9] r0 := by rw [titleAt_cons e0 hw, if_pos (by simp [isOp, U.is]; omega)]
        have hcl : closer src.cps[n9] ≠ 10 ∧ closer src.cps[n9] ≠ 92 ∧ closer src.cps[n9] ≠ 40 := by
          unfold closer
          refine ⟨?_, ?_, ?_⟩ <;> (split <;> omega)
        k_steps
        · refine unstop ?_
          dsimp only [KswPost]
          have eN : titleAt us = none := by
            have hkk : k < src.cps.size := by omega
            obtain ⟨r, rfl, ha'⟩ := ha.one hkk (by intro h1; omega)
            rw [eT, hc, title_cons, if_neg (by simp [U.is]; omega), if_pos (by simp [U.is]; omega)]; rfl
          rename News _ _ _ ((lT, _) :: (news ++ Tb)) => N8
          have l12 : ∀ q ∈ news ++ Tb, q.1 < _ := fun q hq => Heap.lt_size (N8 q (.tail _ hq)).1
          k_steps
          walk_at "MINE tNone"
        · walk_at "MINE tOne"
        · walk_at "MINE tEsc"
        · walk_at "MINE tOne"
        · walk_at "MINE tOne"
        · walk_at "MINE tClose"
        · walk_at "MINE tOne"
        · walk_at "MINE tOne"
        · walk_at "MINE tEsc"
        · walk_at "MINE tOne"
        · walk_at "MINE tOne"
        · walk_at "MINE tClose"
        · walk_at "MINE tOne"
        · have eN : titleAt us = none := by
            rw [eT, hc, ha.end_ (by omega)]; rfl
          rename News _ _ _ ((lT, _) :: (news ++ Tb)) => N8
          have l12 : ∀ q ∈ news ++ Tb, q.1 < _ := fun q hq => Heap.lt_size (N8 q (.tail _ hq)).1
          walk_at "MINE tNone"
      · have eN : titleAt us = none := by
          rcases hAt.split with ⟨_, e⟩ | ⟨hk, r0, e0, _, _⟩ | ⟨hk, r0, h92, _, e0, _⟩
          · omega
          · rw [titleAt_cons e0 hw, if_neg (by simp [isOp, U.is]; omega)]
          · rw [titleAt_cons e0 hw, if_neg (by simp [isOp, U.is])]
        k_steps
        rename (_ ∧ AllLt _ (news ++ Tb)) => l13
        have l12 := ktn_ltOf l13.2
        walk_at "MINE tNone"

theorem words_comp_1 : True := by
  k_with_none
  w_top off
  k_with "MINE ar" => (with_reducible first | assumption | decide | ((show @LT.lt Nat _ _ _); first | exact ar_n1 (by assumption) | exact ar_n2 (by assumption) | exact ar_n6 (by assumption) | exact ar_n12 (by assumption) | exact ar_n13 (by assumption) | exact ar_k1 (by assumption) | exact ar_k2 (by assumption) | exact ar_k3 (by assumption) | exact ar_k4 (by assumption) | exact ar_k8 (by assumption) | exact ar_m1 (by assumption) | exact ar_m2 (by assumption) | exact ar_m3 (by assumption) | exact ar_m4 (by assumption) | exact ar_m5 (by assumption) | exact ar_e4 (by assumption) | exact ar_e5 (by assumption) | exact ar_r1 (by assumption) | exact Nat.lt_succ_self _ | exact ar_r2 (by assumption) (by decide) | exact ar_r3 (by assumption) (by decide) | exact ar_n7 (by assumption) (by assumption) | exact ar_n8 (by assumption) (by assumption) | exact ar_n16 (by assumption) (by assumption) | exact ar_n20 (by assumption) (by assumption) | exact ar_n21 (by assumption) (by assumption) | exact ar_n23 (by assumption) (by assumption) | exact ar_n24 (by assumption) (by assumption) | exact ar_e17 (by assumption) (by assumption) | exact ar_e19 (by assumption) (by assumption) | exact ar_n14 (by assumption) (by assumption) (by assumption) | exact ar_n26 (by assumption) (by assumption) (by assumption) | exact ar_n27 (by assumption) (by assumption) (by assumption) | exact ar_n15 (by assumption) (by assumption) (by assumption) (by assumption) | exact ar_n22 (by assumption) (by assumption) (by assumption) (by assumption)) | ((show @LE.le Nat _ _ _); first | exact Nat.le_refl _ | exact Nat.le_add_right _ _ | exact ar_n3 (by assumption) | exact ar_n4 (by assumption) | exact ar_n5 (by assumption) | exact ar_k7 (by assumption) | exact ar_k10 (by assumption) | exact ar_k13 (by assumption) | exact ar_e1 (by assumption) | exact ar_e2 (by assumption) | exact ar_e3 (by assumption) | exact ar_e6 (by assumption) | exact ar_e7 (by assumption) | exact ar_e8 (by assumption) | exact ar_s1 (by assumption) | exact ar_w2 (by assumption) | exact ar_n25 (by assumption) | exact ar_n9 (by assumption) (by assumption) | exact ar_n17 (by assumption) (by assumption) | exact ar_n28 (by assumption) (by assumption) | exact ar_e9 (by assumption) (by assumption) | exact ar_e10 (by assumption) (by assumption) | exact ar_e18 (by assumption) (by assumption) | exact ar_s3 (by assumption) (by assumption) | exact ar_n10 (by assumption) (by assumption) (by assumption) | exact ar_n11 (by assumption) (by assumption) (by assumption)) | ((show @LT.lt Int _ _ _); first | exact ar_k9 (by assumption) | exact ar_n18 (by assumption) | exact ar_n19 (by assumption) (by assumption)) | ((show @LE.le Int _ _ _); first | exact Int.natCast_nonneg _) | ((show @Eq Nat _ _); first | exact ar_e11 (by assumption) | exact ar_e12 (by assumption) | exact ar_e13 (by assumption) | exact ar_e15 (by assumption) | exact ar_s2 (by assumption) | exact ar_s4 (by assumption) | exact ar_w6 (by assumption) (by assumption) | exact ar_nn (by assumption)) | ((show @Eq Int _ _); first | exact ar_i5 | exact ar_i6 | exact ar_i7 | exact ar_i8 (by assumption)) | ((show ¬ _); first | exact ar_k5 (by assumption) | exact ar_k6 (by assumption) | exact ar_k11 (by assumption) | exact ar_k12 (by assumption) | exact ar_k14 (by assumption) | exact ar_e14 (by assumption) | exact ar_e16 (by assumption) | exact ar_e20 (by assumption) | exact ar_q1 (by assumption) | exact ar_q2 (by assumption) | exact ar_q3 (by assumption) | exact ar_q4 (by assumption) | exact ar_q5 (by assumption) | exact ar_w7 (by assumption) | exact ar_w8 (by assumption) | exact ar_w14 (by assumption) | exact ar_w16 (by assumption) | exact ar_w18 (by assumption) | exact ar_w19 (by assumption) | exact ar_w20 (by assumption) | exact ar_o3 (by assumption) | exact ar_o4 (by assumption) | exact ar_d (by assumption) (by decide) | exact ar_l1 (by assumption) (by assumption) | exact ar_l2 (by assumption) (by assumption) | exact ar_l3 (by assumption) (by assumption) | exact ar_w17 (by assumption) (by assumption) | exact ar_lv (by assumption) (by assumption) (by assumption) | exact ar_nn2 (by assumption)) | ((show _ ∧ _); first | exact ar_w1 (by assumption) | exact ar_w10 (by assumption) | exact ar_w12 (by assumption) | exact ar_w13 (by assumption) | exact ar_o2 (by assumption) | exact ar_w4 (by assumption) (by assumption) | exact ar_i4 (by assumption) (by assumption)) | ((show _ ∨ _); first | exact ar_o1 (by assumption) | exact ar_w3 (by assumption) (by assumption) | exact ar_w5 (by assumption) (by assumption) | exact ar_w9 (by assumption) (by assumption) | exact ar_w11 (by assumption) (by assumption)) | ((show _ ↔ _); first | exact ar_z3 | exact ar_z4 | exact ar_z5) | ((show False); first | exact (ar_f1 (by assumption) (by assumption) (by assumption)).elim | exact (ar_f2 (by assumption) (by assumption) (by assumption)).elim | exact (ar_c1 (by assumption) (by assumption)).elim | exact (ar_c2 (by assumption) (by assumption)).elim | exact (ar_c3 (by assumption) (by assumption)).elim | exact (ar_c4 (by assumption) (by assumption)).elim | exact (ar_c5 (by assumption) (by assumption)).elim | exact (ar_c7 (by assumption) (by assumption)).elim | exact (ar_c8 (by assumption) (by assumption)).elim | exact (ar_c9 (by assumption) (by assumption)).elim | exact (ar_c10 (by assumption) (by assumption)).elim | exact (ar_c11 (by assumption) (by assumption)).elim | exact (ar_c12 (by assumption) (by assumption)).elim | exact (ar_c13 (by assumption) (by assumption)).elim | exact (ar_f3 (by assumption) (by assumption)).elim | exact (ar_f4 (by assumption) (by assumption)).elim | exact (ar_f5 (by assumption) (by assumption)).elim | exact (ar_f6 (by assumption) (by assumption)).elim | exact (ar_f7 (by assumption) (by assumption)).elim | exact (ar_f8 (by assumption) (by assumption)).elim | exact (ar_f9 (by assumption) (by assumption)).elim | exact (ar_f10 (by assumption) (by assumption)).elim) | ((show @Eq _ _ _); first | exact (ar_f1 (by assumption) (by assumption) (by assumption)).elim | exact (ar_f2 (by assumption) (by assumption) (by assumption)).elim | exact (ar_c1 (by assumption) (by assumption)).elim | exact (ar_c2 (by assumption) (by assumption)).elim | exact (ar_c3 (by assumption) (by assumption)).elim | exact (ar_c4 (by assumption) (by assumption)).elim | exact (ar_c5 (by assumption) (by assumption)).elim | exact (ar_c7 (by assumption) (by assumption)).elim | exact (ar_c8 (by assumption) (by assumption)).elim | exact (ar_c9 (by assumption) (by assumption)).elim | exact (ar_c10 (by assumption) (by assumption)).elim | exact (ar_c11 (by assumption) (by assumption)).elim | exact (ar_c12 (by assumption) (by assumption)).elim | exact (ar_c13 (by assumption) (by assumption)).elim | exact (ar_f3 (by assumption) (by assumption)).elim | exact (ar_f4 (by assumption) (by assumption)).elim | exact (ar_f5 (by assumption) (by assumption)).elim | exact (ar_f6 (by assumption) (by assumption)).elim | exact (ar_f7 (by assumption) (by assumption)).elim | exact (ar_f8 (by assumption) (by assumption)).elim | exact (ar_f9 (by assumption) (by assumption)).elim | exact (ar_f10 (by assumption) (by assumption)).elim) | (intro _; first | exact (ar_f1 (by assumption) (by assumption) (by assumption)).elim | exact (ar_f2 (by assumption) (by assumption) (by assumption)).elim | exact (ar_c1 (by assumption) (by assumption)).elim | exact (ar_c2 (by assumption) (by assumption)).elim | exact (ar_c3 (by assumption) (by assumption)).elim | exact (ar_c4 (by assumption) (by assumption)).elim | exact (ar_c5 (by assumption) (by assumption)).elim | exact (ar_c7 (by assumption) (by assumption)).elim | exact (ar_c8 (by assumption) (by assumption)).elim | exact (ar_c9 (by assumption) (by assumption)).elim | exact (ar_c10 (by assumption) (by assumption)).elim | exact (ar_c11 (by assumption) (by assumption)).elim | exact (ar_c12 (by assumption) (by assumption)).elim | exact (ar_c13 (by assumption) (by assumption)).elim | exact (ar_f3 (by assumption) (by assumption)).elim | exact (ar_f4 (by assumption) (by assumption)).elim | exact (ar_f5 (by assumption) (by assumption)).elim | exact (ar_f6 (by assumption) (by assumption)).elim | exact (ar_f7 (by assumption) (by assumption)).elim | exact (ar_f8 (by assumption) (by assumption)).elim | exact (ar_f9 (by assumption) (by assumption)).elim | exact (ar_f10 (by assumption) (by assumption)).elim) | exact ar_i1 (by assumption) | exact ar_i2 (by assumption) | exact ar_i3 (by assumption) (by decide))
  k_with "MINE enter" => (refine' code_def ?zqk1 ?zqk2 ?zqk3 ?zqk4 ?zqk5 ?zqkA ?zqkF ?zqkK ?zqk6 ?zqk7 ?zqk8 ?zqk9 ?zqkB ?_ ?zqc2 ?zqc3 ?zqc4 ?zqc5; (case zqkA => exact rfl); (case zqkF => exact rfl); (case zqkK => assumption); (case zqk1 => k_asm); (case zqk2 => k_asm); (case zqk3 => k_asm); (case zqk4 => k_asm); (case zqk5 => k_asm); (case zqk6 => k_is); (case zqk7 => k_is); (case zqk8 => ktr_room); (case zqk9 => first | exact BindsTo.of_eq rfl | exact binds_K (by k_in) rfl (by k_is) rfl rfl rfl); (case zqc5 => decide); (case zqkB => exact locs rfl); (case zqc2 => exact rfl); (case zqc3 => exact rfl); (case zqc4 => exact rfl); k_whole; intro g' L' h' FG' F' N' B' X' T'; (try dsimp only); (try k_lift B'); (try k_fold))
  k_with "exec While BoolOp cons nil" => (refine stop ?_)
  k_with "exec While Compare cons nil" => (refine stop ?_)
  k_with "MINE same" => (intro z h2 h3; simp only [List.forall_mem_cons, List.not_mem_nil, false_implies, implies_true, and_true, ne_eq] at h2; (try simp only [List.contains_cons, List.contains_nil, Bool.or_false, Bool.or_eq_false_iff, beq_eq_false_iff_ne, ne_eq] at h3); simp [kstB, h2, h3])
  k_with "KswPost" => (refine stop ?_)
  k_with "subscriptTail Name Name str int" => (k_here; (with_unfolding_all refine' item_a ?zqk0 ?zqk1 ?zqk2 ?zqk3 ?_; (case zqk0 => assumption); (case zqk1 => first | rfl | exact Int.natCast_add _ _ | omega); (case zqk2 => omega); (case zqk3 => omega)); intro hItem')
  k_with "subscriptTail Name BinOp str int" => (k_here; (with_unfolding_all refine' item_a (n := _ + 1) ?zqk0 ?zqk1 ?zqk2 ?zqk3 ?_; (case zqk0 => assumption); (case zqk1 => rfl); (case zqk2 => omega); (case zqk3 => omega)); intro hItem')
  k_with "compareOp Eq str str" => (k_here; first | refine eq_c lit_lt ?_ | refine eq_c lit_gt ?_ | refine eq_c lit_bs ?_ | refine eq_c lit_lp ?_ | refine eq_c lit_rp ?_ | refine eq_c lit_nl ?_ | refine eq_c lit_cr ?_ | refine eq_c lit_del ?_ | refine eq_c lit_nul ?_ | refine eq_c lit_blank ?_)
  k_with "compareOp In str str" => (k_here; first | refine in_c _ (in_ws _) ?_ | refine in_c _ (in_bt _) ?_ | refine in_c _ (in_nr _) ?_ | refine in_c _ (in_bad _) ?_ | refine in_c _ (in_punct _) ?_)
  k_with "call builtin:len" => (k_here; (with_reducible show wpAny _ _ (call (Value.builtin "len") [Value.str _ _]) _ _ _); refine len_c (by omega) ?_)
  k_with "call ref" => (k_here; (with_reducible show wpAny _ _ (call (Value.ref _) _ _) _ _ _); refine stop ?_)
  k_with "MINE room" => ((case B => k_asm); (case F => k_asm); (case X => k_asm); (case N => k_asm); (case T => k_asm); (case hk => first | exact rfl | assumption); (case hd => ktr_room); (case hu => ktr_units))
  k_with "getMethod ref" => (k_here; (with_reducible show wpAny _ _ (getMethod _ (Str.ofString "sub") _) _ _ _); k_dflt (refine' getM ?zqF ?zqX ?zql slot_sub type_sub ?_; (case zqF => k_asm); (case zqX => k_asm); (case zql => k_is)))
  k_with "getMethod ref" => (k_here; (with_reducible show wpAny _ _ (getMethod _ (Str.ofString "match") _) _ _ _); k_dflt (refine' getM ?zqF ?zqX ?zql slot_match type_match ?_; (case zqF => k_asm); (case zqX => k_asm); (case zql => k_is)))
  k_with "callWith ref" => (k_here; k_dflt (refine' callWith_K ?zqk1 ?zqk2 ?_; (case zqk1 => k_asm); (case zqk2 => k_is); k_whole))
  k_with "call builtin:list.append" => (k_here; k_dflt (refine' append_T ?zqF ?zqN ?zql ?zqz ?_; (case zqF => k_asm); (case zqN => k_asm); (case zql => assumption); (case zqz => assumption)); intro h' F' N'; (try k_sweep))
  k_with "getMethod ref" => (k_here; (with_reducible show wpAny _ _ (getMethod _ (Str.ofString "group") _) _ _ _); k_dflt (refine' getMm ?zqN ?zqm ?_; (case zqN => k_asm); (case zqm => k_mem)))
  k_with "call builtin:re.Match.group" => (k_here; k_dflt (refine' group_E ?zqz ?zqN ?zqm ?zqn ?_; (case zqN => k_asm); (case zqm => k_mem); (case zqn => k_mem); (case zqz => omega)); intro tk')
  k_with "truthy str" => (k_here; refine truthy_c (by simp [Array.size_extract]; omega) ?_)
  k_with "binaryOp Add str str" => (k_here; refine add_c (by simp [Array.size_extract, lit_nil]; omega) ?_; intro ta' tka')
  k_with "MINE lam" => (refine' kla_code ?zqk1 ?zqk2 ?zqk3 ?zqk4 ?zqk5 ?zqkA ?zqkF ?zqkK ?zqk6 ?zqk7 ?zqk8 ?zqk9 ?zqkB ?_ ?zqc2 ?zqc3 ?zqc4 ?zqc5; (case zqkA => exact rfl); (case zqkF => exact rfl); (case zqkK => exact rfl); (case zqk1 => k_asm); (case zqk2 => k_asm); (case zqk3 => k_asm); (case zqk4 => k_asm); (case zqk5 => k_asm); (case zqk6 => k_mem); (case zqk7 => exact codeRec_news (by k_asm) (by k_mem) (by assumption) (by assumption)); (case zqk8 => ktr_room); (case zqk9 => exact rfl); (case zqc5 => decide); (case zqkB => exact locs rfl); (case zqc2 => exact rfl); (case zqc3 => exact rfl); (case zqc4 => exact rfl); k_whole; intro g' L' h' FG' F' N' B' X' T'; (try dsimp only); (try k_lift B'); (try k_fold))
  k_with "compareOp NotIn str str" => (k_here; first | refine notin_c _ (in_ws _) ?_ | refine notin_c _ (in_bt _) ?_ | refine notin_c _ (in_nr _) ?_ | refine notin_c _ (in_bad _) ?_ | refine notin_c _ (in_punct _) ?_)
  k_with "ite" => (first | (with_reducible refine ite_ff9 ?_) | (with_reducible refine ite_tt9 ?_))
  exact True.intro
/-! ## A comprehension over a text -/
section
variable {prog : Program} {w : World} {A : Around} {E : Value → Shared → Prop} {s : Shared} {h₀ : Heap} {L : Addr} {m : Str → Option Value} {env : Env}
theorem iter_text {x : Str} {t : Tok} {Q : Value → Shared → Prop}
    (hQ : ∀ (o : Obj) (St : Nat → Heap → Prop), (∀ A' : Around, A'.handled = none → Walks prog w A' s.heap.objs.size [s.heap.objs.size] [s.heap.objs.size] x.cps.size (SignAt x) St) → St 0 (s.heap.push o) →
      (∀ i h, St i h → ∃ o, h.get? s.heap.objs.size = some o) → Q (.ref s.heap.objs.size) { s with heap := s.heap.push o }) : wpAny (model prog w) A (pyIter (.str x t)) Q E s := by
  cases ha : x.cps.all (· < 128)
  · exact wpAny_pyIter_wide ha (hQ _ _ (fun A' hA => Walks.strWide hA _ x t) ⟨_, Heap.get?_push_size _ rfl, rfl, rfl⟩ fun _ _ st => let ⟨o, ho, _⟩ := st; ⟨o, ho⟩)
  · exact wpAny_pyIter_ascii ha (hQ _ _ (fun A' hA => Walks.strAscii hA _ x t) ⟨_, Heap.get?_push_size _ rfl, rfl, rfl⟩ fun _ _ st => let ⟨o, ho, _⟩ := st; ⟨o, ho⟩)

/-- what the iterable of a comprehension must be: a text -/
def SrcS (prog : Program) (w : World) (A : Around) (h₀ : Heap) (L : Addr) (m : Str → Option Value) (env : Env) (elt : Expr) (x : Str) (scope : Scope) (cl : List (Str × Addr)) (Fin : Shared → List Value → List (Addr × Obj) → Prop) (xv : Value) (s₁ : Shared) : Prop :=
  ∃ y t news, xv = .str y t ∧ A.handled = none ∧ Fr h₀ L s₁.heap m ∧ News h₀ L s₁.heap news ∧ y.cps.size ≤ sizeLine ∧
    ∀ s₂ : Shared, (∃ h, s₂ = { s₁ with heap := h }) → LCg.CompRest prog w A h₀ L m env elt x scope cl s₂ (fun _ => True) (SignAt y) (Fin s₂) y.cps.size 0 [] news

theorem assign_comp {elt iter : Expr} {x y : Str} {px py : Pos} {scope : Scope} {cl : List (Str × Addr)} {pos spos : Pos} {Q : Flow → Shared → Prop} (_F₀ : Fr h₀ L s.heap m) (hLe : env.locals = L)
    (hsw : swapsWith (.ListComp elt [⟨.Name x px, iter, [], 0⟩] scope pos) (some (.Name y py)) spos.line env = pure true)
    (hclos : closureFor scope env = pure cl) (hcell : ∀ z ∈ scope.names, z.2 ≠ .cell) (hkind : scope.kind = .function)
    (hnames : ∀ z ∈ scope.names, z.2 = .local → scope.names.lookup z.1 = some .local) (hx : scope.names.lookup x = some .local)
    (hy : env.kindOf y = some .local) (hp : (env.scope.kind == .class || (env.scope.kind == .module && env.locals != env.globals)) = false)
    (h : wpAny (model prog w) A (eval iter env) (SrcS prog w A h₀ L m env elt x scope cl (fun s₂ => LCg.FinA h₀ L m s₂ y Q)) E s)
    (hs : ∀ x, foldedSetIterable iter env x = pure x := by intro _; rfl) :
    wpAny (model prog w) A (exec (.Assign [.Name y py] (.ListComp elt [⟨.Name x px, iter, [], 0⟩] scope pos) spos) env) Q E s := by
  subst hLe
  rw [exec_Assign_Name_used _ _ _ _ hsw]
  refine wpAny_bind (wpAny_standAt (wpAny_bind ?_))
  show wpAny _ A (do let _ ← comprehension (.ListComp elt [⟨.Name x px, iter, [], 0⟩] scope pos) scope env _ (newList []) false (eval iter env) (some (assign (.Name y py) env))) _ _ s
  refine wpAny_bind (wpAny_mono (wpAny_comprehension_free (use := some (assign (.Name y py) env)) (Q := fun _ s' => Q .next s') rfl hs hclos hkind hnames
    (wpAny_mono h (fun xv s₁ h₁ => ?_) fun _ _ e => e)) (fun _ s' hq => wpAny_pure (wpAny_pure hq)) fun _ _ e => e)
  obtain ⟨tx, t, news, rfl, hh, F, N, hsz, R⟩ := h₁
  refine iter_text fun o St W hst hIo => ?_
  refine LCg.block_U (W _ hh) hsz hIo (fun i h h' o nw st e e' _ _ _ => (W _ hh).frame _ _ _ st fun b hb o2 h2 => ?_) hcell hkind hx hst (fun b hb => ?_)
      (F.keeps fun _ _ e => Heap.get?_push_of_some _ e) (N.grown fun _ _ e => Heap.get?_push_of_some _ e) (Nat.ne_of_lt F.ns.lt) (next_is_new F) (fun p hp => Nat.ne_of_lt (Heap.lt_size (N p hp).1)) trivial (R _ ⟨_, rfl⟩) ?_
  · rw [List.mem_singleton.mp hb] at h2 ⊢
    rw [e] at h2
    rw [e', h2]
  · rw [List.mem_singleton.mp hb]
    show s₁.heap.objs.size < (s₁.heap.push _).objs.size
    rw [Heap.size_push]; exact Nat.lt_succ_self _
  · intro D C h' tk m' ys news' F' N' o1 hn hC₀ hD₀ hCL hDL hCD offC fin
    show wpAny _ A (assign (.Name y py) env (.ref D)) _ _ _
    refine wpAny_assign_Name (wpAny_storeName_local hy F'.ns (fun h₂ hn₂ hs₂ => ?_) hp)
    have hL₀ : h₀.get? env.locals = none := Heap.get?_none_of_le F'.above
    have F₂ : Fr h₀ env.locals h₂ (fun z => if z = y then some (.ref D) else m z) := ⟨hn₂, fun b o e => hs₂.extBut b o (fun q => by rw [q, hL₀] at e; cases e) (F'.keep b o e), F'.above⟩
    refine ⟨m', hn.sameBut hs₂ hCL, fun h'' hs'' => fin D h'' _ (F₂.change hs'' hCL hC₀) (fun p hp => ?_) o1⟩
    have z : h₂.get? p.1 = some p.2 := hs₂.extBut _ _ (N' p hp).2.1 (N' p hp).1
    refine ⟨hs''.extBut _ _ ?_ z, (N' p hp).2⟩
    rcases List.mem_cons.mp hp with rfl | hp
    · exact Ne.symm hCD
    · exact offC p hp

theorem rest_text {elt : Expr} {x : Str} {scope : Scope} {cl : List (Str × Addr)} {S : List (Addr × Obj) → Prop} {Fin : List Value → List (Addr × Obj) → Prop} {news : List (Addr × Obj)} {y : Str} (g : Nat → Str)
    (turn : ∀ (i : Nat) (hi : i < y.cps.size) t I oI C oC D m₂ ys h tk (E' : Value → Shared → Prop), LCg.NsObj oC m₂ → m₂ x = some (.str ⟨#[y.cps[i]]⟩ t) → Fr h₀ L h m → News h₀ L h ((I, oI) :: (C, oC) :: (D, LCg.lst ys) :: news) → LCg.Off3 I C D news → ((@Ne Nat I C) ∧ (@Ne Nat I D) ∧ (@Ne Nat C D)) →
      wpAny (model prog w) A (eval elt (compEnvC scope cl C env)) (LCg.CompEnd h₀ L m { s with heap := h, toks := tk } I oI C oC D (LCg.lst ys) S (fun r news' => news' = news ∧ ∃ t, r = .str (g y.cps[i]) t)) E' { s with heap := h, toks := tk })
    (fin : ∀ ys, StrsAre ys (y.cps.toList.map g) → Fin ys news) : LCg.CompRest prog w A h₀ L m env elt x scope cl s S (SignAt y) Fin y.cps.size 0 [] news := by
  have key : ∀ (j i : Nat) (ys : List Value), i + j = y.cps.size → StrsAre ys ((y.cps.toList.take i).map g) → LCg.CompRest prog w A h₀ L m env elt x scope cl s S (SignAt y) Fin j i ys news := by
    intro j
    induction j with
    | zero =>
      intro i ys hi hy
      have e : i = y.cps.toList.length := by simpa using hi
      subst e
      rw [List.take_length] at hy
      exact LCg.CompRest.zero (fin ys hy)
    | succ j ih =>
      intro i ys hi hy
      refine LCg.CompRest.succ ?_
      intro v I oI C oC D m₂ h tk E' hv hC hx F N off ne
      obtain ⟨c, t, hk, hv'⟩ := hv
      have hlt : i < y.cps.size := by omega
      rw [Array.getElem?_eq_getElem hlt] at hk
      cases hk
      rw [hv'] at hx
      refine wpAny_mono (turn i hlt t I oI C oC D m₂ ys h tk E' hC hx F N off ne) (fun r s₂ hq => ?_) fun _ _ e => e
      obtain ⟨h', tk', nw, e, F', N', off', hS, hn, t', hy'⟩ := hq
      rw [hn] at N' off' hS
      refine ⟨h', tk', news, e, F', N', off', hS, ?_⟩
      rw [hy']
      refine ih (i + 1) _ (by omega) ?_
      rw [List.take_add_one, List.getElem?_eq_getElem (by simpa using hlt), List.map_append]
      simpa using hy.append' (.cons (g y.cps[i]) t' .nil)
  exact key _ 0 [] (by omega) (by simp only [List.take_zero, List.map_nil]; exact .nil)
end

theorem words_enc_1 : True := by
  k_with_none
  w_top off
  k_with "MINE ar" => (with_reducible first | assumption | decide | ((show @LT.lt Nat _ _ _); first | exact ar_n1 (by assumption) | exact ar_n2 (by assumption) | exact ar_n6 (by assumption) | exact ar_n12 (by assumption) | exact ar_n13 (by assumption) | exact ar_k1 (by assumption) | exact ar_k2 (by assumption) | exact ar_k3 (by assumption) | exact ar_k4 (by assumption) | exact ar_k8 (by assumption) | exact ar_m1 (by assumption) | exact ar_m2 (by assumption) | exact ar_m3 (by assumption) | exact ar_m4 (by assumption) | exact ar_m5 (by assumption) | exact ar_e4 (by assumption) | exact ar_e5 (by assumption) | exact ar_r1 (by assumption) | exact Nat.lt_succ_self _ | exact ar_r2 (by assumption) (by decide) | exact ar_r3 (by assumption) (by decide) | exact ar_n7 (by assumption) (by assumption) | exact ar_n8 (by assumption) (by assumption) | exact ar_n16 (by assumption) (by assumption) | exact ar_n20 (by assumption) (by assumption) | exact ar_n21 (by assumption) (by assumption) | exact ar_n23 (by assumption) (by assumption) | exact ar_n24 (by assumption) (by assumption) | exact ar_e17 (by assumption) (by assumption) | exact ar_e19 (by assumption) (by assumption) | exact ar_n14 (by assumption) (by assumption) (by assumption) | exact ar_n26 (by assumption) (by assumption) (by assumption) | exact ar_n27 (by assumption) (by assumption) (by assumption) | exact ar_n15 (by assumption) (by assumption) (by assumption) (by assumption) | exact ar_n22 (by assumption) (by assumption) (by assumption) (by assumption)) | ((show @LE.le Nat _ _ _); first | exact Nat.le_refl _ | exact Nat.le_add_right _ _ | exact ar_n3 (by assumption) | exact ar_n4 (by assumption) | exact ar_n5 (by assumption) | exact ar_k7 (by assumption) | exact ar_k10 (by assumption) | exact ar_k13 (by assumption) | exact ar_e1 (by assumption) | exact ar_e2 (by assumption) | exact ar_e3 (by assumption) | exact ar_e6 (by assumption) | exact ar_e7 (by assumption) | exact ar_e8 (by assumption) | exact ar_s1 (by assumption) | exact ar_w2 (by assumption) | exact ar_n25 (by assumption) | exact ar_n9 (by assumption) (by assumption) | exact ar_n17 (by assumption) (by assumption) | exact ar_n28 (by assumption) (by assumption) | exact ar_e9 (by assumption) (by assumption) | exact ar_e10 (by assumption) (by assumption) | exact ar_e18 (by assumption) (by assumption) | exact ar_s3 (by assumption) (by assumption) | exact ar_n10 (by assumption) (by assumption) (by assumption) | exact ar_n11 (by assumption) (by assumption) (by assumption)) | ((show @LT.lt Int _ _ _); first | exact ar_k9 (by assumption) | exact ar_n18 (by assumption) | exact ar_n19 (by assumption) (by assumption)) | ((show @LE.le Int _ _ _); first | exact Int.natCast_nonneg _) | ((show @Eq Nat _ _); first | exact ar_e11 (by assumption) | exact ar_e12 (by assumption) | exact ar_e13 (by assumption) | exact ar_e15 (by assumption) | exact ar_s2 (by assumption) | exact ar_s4 (by assumption) | exact ar_w6 (by assumption) (by assumption) | exact ar_nn (by assumption)) | ((show @Eq Int _ _); first | exact ar_i5 | exact ar_i6 | exact ar_i7 | exact ar_i8 (by assumption)) | ((show ¬ _); first | exact ar_k5 (by assumption) | exact ar_k6 (by assumption) | exact ar_k11 (by assumption) | exact ar_k12 (by assumption) | exact ar_k14 (by assumption) | exact ar_e14 (by assumption) | exact ar_e16 (by assumption) | exact ar_e20 (by assumption) | exact ar_q1 (by assumption) | exact ar_q2 (by assumption) | exact ar_q3 (by assumption) | exact ar_q4 (by assumption) | exact ar_q5 (by assumption) | exact ar_w7 (by assumption) | exact ar_w8 (by assumption) | exact ar_w14 (by assumption) | exact ar_w16 (by assumption) | exact ar_w18 (by assumption) | exact ar_w19 (by assumption) | exact ar_w20 (by assumption) | exact ar_o3 (by assumption) | exact ar_o4 (by assumption) | exact ar_d (by assumption) (by decide) | exact ar_l1 (by assumption) (by assumption) | exact ar_l2 (by assumption) (by assumption) | exact ar_l3 (by assumption) (by assumption) | exact ar_w17 (by assumption) (by assumption) | exact ar_lv (by assumption) (by assumption) (by assumption) | exact ar_nn2 (by assumption)) | ((show _ ∧ _); first | exact ar_w1 (by assumption) | exact ar_w10 (by assumption) | exact ar_w12 (by assumption) | exact ar_w13 (by assumption) | exact ar_o2 (by assumption) | exact ar_w4 (by assumption) (by assumption) | exact ar_i4 (by assumption) (by assumption)) | ((show _ ∨ _); first | exact ar_o1 (by assumption) | exact ar_w3 (by assumption) (by assumption) | exact ar_w5 (by assumption) (by assumption) | exact ar_w9 (by assumption) (by assumption) | exact ar_w11 (by assumption) (by assumption)) | ((show _ ↔ _); first | exact ar_z3 | exact ar_z4 | exact ar_z5) | ((show False); first | exact (ar_f1 (by assumption) (by assumption) (by assumption)).elim | exact (ar_f2 (by assumption) (by assumption) (by assumption)).elim | exact (ar_c1 (by assumption) (by assumption)).elim | exact (ar_c2 (by assumption) (by assumption)).elim | exact (ar_c3 (by assumption) (by assumption)).elim | exact (ar_c4 (by assumption) (by assumption)).elim | exact (ar_c5 (by assumption) (by assumption)).elim | exact (ar_c7 (by assumption) (by assumption)).elim | exact (ar_c8 (by assumption) (by assumption)).elim | exact (ar_c9 (by assumption) (by assumption)).elim | exact (ar_c10 (by assumption) (by assumption)).elim | exact (ar_c11 (by assumption) (by assumption)).elim | exact (ar_c12 (by assumption) (by assumption)).elim | exact (ar_c13 (by assumption) (by assumption)).elim | exact (ar_f3 (by assumption) (by assumption)).elim | exact (ar_f4 (by assumption) (by assumption)).elim | exact (ar_f5 (by assumption) (by assumption)).elim | exact (ar_f6 (by assumption) (by assumption)).elim | exact (ar_f7 (by assumption) (by assumption)).elim | exact (ar_f8 (by assumption) (by assumption)).elim | exact (ar_f9 (by assumption) (by assumption)).elim | exact (ar_f10 (by assumption) (by assumption)).elim) | ((show @Eq _ _ _); first | exact (ar_f1 (by assumption) (by assumption) (by assumption)).elim | exact (ar_f2 (by assumption) (by assumption) (by assumption)).elim | exact (ar_c1 (by assumption) (by assumption)).elim | exact (ar_c2 (by assumption) (by assumption)).elim | exact (ar_c3 (by assumption) (by assumption)).elim | exact (ar_c4 (by assumption) (by assumption)).elim | exact (ar_c5 (by assumption) (by assumption)).elim | exact (ar_c7 (by assumption) (by assumption)).elim | exact (ar_c8 (by assumption) (by assumption)).elim | exact (ar_c9 (by assumption) (by assumption)).elim | exact (ar_c10 (by assumption) (by assumption)).elim | exact (ar_c11 (by assumption) (by assumption)).elim | exact (ar_c12 (by assumption) (by assumption)).elim | exact (ar_c13 (by assumption) (by assumption)).elim | exact (ar_f3 (by assumption) (by assumption)).elim | exact (ar_f4 (by assumption) (by assumption)).elim | exact (ar_f5 (by assumption) (by assumption)).elim | exact (ar_f6 (by assumption) (by assumption)).elim | exact (ar_f7 (by assumption) (by assumption)).elim | exact (ar_f8 (by assumption) (by assumption)).elim | exact (ar_f9 (by assumption) (by assumption)).elim | exact (ar_f10 (by assumption) (by assumption)).elim) | (intro _; first | exact (ar_f1 (by assumption) (by assumption) (by assumption)).elim | exact (ar_f2 (by assumption) (by assumption) (by assumption)).elim | exact (ar_c1 (by assumption) (by assumption)).elim | exact (ar_c2 (by assumption) (by assumption)).elim | exact (ar_c3 (by assumption) (by assumption)).elim | exact (ar_c4 (by assumption) (by assumption)).elim | exact (ar_c5 (by assumption) (by assumption)).elim | exact (ar_c7 (by assumption) (by assumption)).elim | exact (ar_c8 (by assumption) (by assumption)).elim | exact (ar_c9 (by assumption) (by assumption)).elim | exact (ar_c10 (by assumption) (by assumption)).elim | exact (ar_c11 (by assumption) (by assumption)).elim | exact (ar_c12 (by assumption) (by assumption)).elim | exact (ar_c13 (by assumption) (by assumption)).elim | exact (ar_f3 (by assumption) (by assumption)).elim | exact (ar_f4 (by assumption) (by assumption)).elim | exact (ar_f5 (by assumption) (by assumption)).elim | exact (ar_f6 (by assumption) (by assumption)).elim | exact (ar_f7 (by assumption) (by assumption)).elim | exact (ar_f8 (by assumption) (by assumption)).elim | exact (ar_f9 (by assumption) (by assumption)).elim | exact (ar_f10 (by assumption) (by assumption)).elim) | exact ar_i1 (by assumption) | exact ar_i2 (by assumption) | exact ar_i3 (by assumption) (by decide))
  k_with "MINE enter" => (refine' code_def ?zqk1 ?zqk2 ?zqk3 ?zqk4 ?zqk5 ?zqkA ?zqkF ?zqkK ?zqk6 ?zqk7 ?zqk8 ?zqk9 ?zqkB ?_ ?zqc2 ?zqc3 ?zqc4 ?zqc5; (case zqkA => exact rfl); (case zqkF => exact rfl); (case zqkK => assumption); (case zqk1 => k_asm); (case zqk2 => k_asm); (case zqk3 => k_asm); (case zqk4 => k_asm); (case zqk5 => k_asm); (case zqk6 => k_is); (case zqk7 => k_is); (case zqk8 => ktr_room); (case zqk9 => first | exact BindsTo.of_eq rfl | exact binds_K (by k_in) rfl (by k_is) rfl rfl rfl); (case zqc5 => decide); (case zqkB => exact locs rfl); (case zqc2 => exact rfl); (case zqc3 => exact rfl); (case zqc4 => exact rfl); k_whole; intro g' L' h' FG' F' N' B' X' T'; (try dsimp only); (try k_lift B'); (try k_fold))
  k_with "exec While BoolOp cons nil" => (refine stop ?_)
  k_with "exec While Compare cons nil" => (refine stop ?_)
  k_with "MINE same" => (intro z h2 h3; simp only [List.forall_mem_cons, List.not_mem_nil, false_implies, implies_true, and_true, ne_eq] at h2; (try simp only [List.contains_cons, List.contains_nil, Bool.or_false, Bool.or_eq_false_iff, beq_eq_false_iff_ne, ne_eq] at h3); simp [kstB, h2, h3])
  k_with "KswPost" => (refine stop ?_)
  k_with "subscriptTail Name Name str int" => (k_here; (with_unfolding_all refine' item_a ?zqk0 ?zqk1 ?zqk2 ?zqk3 ?_; (case zqk0 => assumption); (case zqk1 => first | rfl | exact Int.natCast_add _ _ | omega); (case zqk2 => omega); (case zqk3 => omega)); intro hItem')
  k_with "subscriptTail Name BinOp str int" => (k_here; (with_unfolding_all refine' item_a (n := _ + 1) ?zqk0 ?zqk1 ?zqk2 ?zqk3 ?_; (case zqk0 => assumption); (case zqk1 => rfl); (case zqk2 => omega); (case zqk3 => omega)); intro hItem')
  k_with "compareOp Eq str str" => (k_here; first | refine eq_c lit_lt ?_ | refine eq_c lit_gt ?_ | refine eq_c lit_bs ?_ | refine eq_c lit_lp ?_ | refine eq_c lit_rp ?_ | refine eq_c lit_nl ?_ | refine eq_c lit_cr ?_ | refine eq_c lit_del ?_ | refine eq_c lit_nul ?_ | refine eq_c lit_blank ?_)
  k_with "compareOp In str str" => (k_here; first | refine in_c _ (in_ws _) ?_ | refine in_c _ (in_bt _) ?_ | refine in_c _ (in_nr _) ?_ | refine in_c _ (in_bad _) ?_ | refine in_c _ (in_punct _) ?_)
  k_with "call builtin:len" => (k_here; (with_reducible show wpAny _ _ (call (Value.builtin "len") [Value.str _ _]) _ _ _); refine len_c (by omega) ?_)
  k_with "call ref" => (k_here; (with_reducible show wpAny _ _ (call (Value.ref _) _ _) _ _ _); refine stop ?_)
  k_with "MINE room" => ((case B => k_asm); (case F => k_asm); (case X => k_asm); (case N => k_asm); (case T => k_asm); (case hk => first | exact rfl | assumption); (case hd => ktr_room); (case hu => ktr_units))
  k_with "getMethod ref" => (k_here; (with_reducible show wpAny _ _ (getMethod _ (Str.ofString "sub") _) _ _ _); k_dflt (refine' getM ?zqF ?zqX ?zql slot_sub type_sub ?_; (case zqF => k_asm); (case zqX => k_asm); (case zql => k_is)))
  k_with "getMethod ref" => (k_here; (with_reducible show wpAny _ _ (getMethod _ (Str.ofString "match") _) _ _ _); k_dflt (refine' getM ?zqF ?zqX ?zql slot_match type_match ?_; (case zqF => k_asm); (case zqX => k_asm); (case zql => k_is)))
  k_with "callWith ref" => (k_here; k_dflt (refine' callWith_K ?zqk1 ?zqk2 ?_; (case zqk1 => k_asm); (case zqk2 => k_is); k_whole))
  k_with "call builtin:list.append" => (k_here; k_dflt (refine' append_T ?zqF ?zqN ?zql ?zqz ?_; (case zqF => k_asm); (case zqN => k_asm); (case zql => assumption); (case zqz => assumption)); intro h' F' N'; (try k_sweep))
  k_with "getMethod ref" => (k_here; (with_reducible show wpAny _ _ (getMethod _ (Str.ofString "group") _) _ _ _); k_dflt (refine' getMm ?zqN ?zqm ?_; (case zqN => k_asm); (case zqm => k_mem)))
  k_with "call builtin:re.Match.group" => (k_here; k_dflt (refine' group_E ?zqz ?zqN ?zqm ?zqn ?_; (case zqN => k_asm); (case zqm => k_mem); (case zqn => k_mem); (case zqz => omega)); intro tk')
  k_with "truthy str" => (k_here; refine truthy_c (by simp [Array.size_extract]; omega) ?_)
  k_with "binaryOp Add str str" => (k_here; refine add_c (by simp [Array.size_extract, lit_nil]; omega) ?_; intro ta' tka')
  k_with "MINE lam" => (refine' kla_code ?zqk1 ?zqk2 ?zqk3 ?zqk4 ?zqk5 ?zqkA ?zqkF ?zqkK ?zqk6 ?zqk7 ?zqk8 ?zqk9 ?zqkB ?_ ?zqc2 ?zqc3 ?zqc4 ?zqc5; (case zqkA => exact rfl); (case zqkF => exact rfl); (case zqkK => exact rfl); (case zqk1 => k_asm); (case zqk2 => k_asm); (case zqk3 => k_asm); (case zqk4 => k_asm); (case zqk5 => k_asm); (case zqk6 => k_mem); (case zqk7 => exact codeRec_news (by k_asm) (by k_mem) (by assumption) (by assumption)); (case zqk8 => ktr_room); (case zqk9 => exact rfl); (case zqc5 => decide); (case zqkB => exact locs rfl); (case zqc2 => exact rfl); (case zqc3 => exact rfl); (case zqc4 => exact rfl); k_whole; intro g' L' h' FG' F' N' B' X' T'; (try dsimp only); (try k_lift B'); (try k_fold))
  k_with "compareOp NotIn str str" => (k_here; first | refine notin_c _ (in_ws _) ?_ | refine notin_c _ (in_bt _) ?_ | refine notin_c _ (in_nr _) ?_ | refine notin_c _ (in_bad _) ?_ | refine notin_c _ (in_punct _) ?_)
  k_with "ite" => (first | (with_reducible refine ite_ff9 ?_) | (with_reducible refine ite_tt9 ?_))
  exact True.intro
/-! ## `str.encode` of one sign, and a comprehension over one octet -/
theorem enc_meets {c : Nat} {b : UInt8} {t u : Tok} (e : Builtin.«str.encode» ⟨[.str ⟨#[c]⟩ t, .str (Str.ofString "utf-8") u], []⟩ = (mkBytes #[b] >>= fun v => ret v)) :
    Meets (Builtin.«str.encode» ⟨[.str ⟨#[c]⟩ t, .str (Str.ofString "utf-8") u], []⟩) (fun _ R s => ∀ t' k, R (.ok (.ret (.bytes #[b] t'))) { s with toks := k }) := by
  refine .of_wp fun prog w A R s hS => ?_
  rw [e]
  exact wpAny_bind (wpAny_mkBytes (wpAny_pure ⟨_, rfl, hS _ _⟩))
theorem enc_60 (t u : Tok) : Builtin.«str.encode» ⟨[.str ⟨#[60]⟩ t, .str (Str.ofString "utf-8") u], []⟩ = (mkBytes #[60] >>= fun v => ret v) := by kernel_rfl
theorem enc_62 (t u : Tok) : Builtin.«str.encode» ⟨[.str ⟨#[62]⟩ t, .str (Str.ofString "utf-8") u], []⟩ = (mkBytes #[62] >>= fun v => ret v) := by kernel_rfl
theorem enc_92 (t u : Tok) : Builtin.«str.encode» ⟨[.str ⟨#[92]⟩ t, .str (Str.ofString "utf-8") u], []⟩ = (mkBytes #[92] >>= fun v => ret v) := by kernel_rfl
theorem enc_34 (t u : Tok) : Builtin.«str.encode» ⟨[.str ⟨#[34]⟩ t, .str (Str.ofString "utf-8") u], []⟩ = (mkBytes #[34] >>= fun v => ret v) := by kernel_rfl
theorem enc_39 (t u : Tok) : Builtin.«str.encode» ⟨[.str ⟨#[39]⟩ t, .str (Str.ofString "utf-8") u], []⟩ = (mkBytes #[39] >>= fun v => ret v) := by kernel_rfl
theorem enc_32 (t u : Tok) : Builtin.«str.encode» ⟨[.str ⟨#[32]⟩ t, .str (Str.ofString "utf-8") u], []⟩ = (mkBytes #[32] >>= fun v => ret v) := by kernel_rfl
section
variable {prog : Program} {w : World} {A : Around} {E : Value → Shared → Prop} {s : Shared} {h₀ : Heap} {L : Addr} {m : Str → Option Value} {env : Env}
theorem enc_call {c : Nat} {b : UInt8} {t u : Tok} {Q : Value → Shared → Prop} (e : Builtin.«str.encode» ⟨[.str ⟨#[c]⟩ t, .str (Str.ofString "utf-8") u], []⟩ = (mkBytes #[b] >>= fun v => ret v))
    (h : ∀ t' k, Q (.bytes #[b] t') { s with toks := k }) : wpAny (model prog w) A (call (.builtin "str.encode") [.str ⟨#[c]⟩ t, .str (Str.ofString "utf-8") u]) Q E s :=
  call_meets F.slot_str_encode (typeIs_str _ _ _) F.entry_str_encode (F.args_str_encode_2 _ _) (enc_meets e) h
theorem enc_method {x : Str} {t : Tok} {pl : Sem Bool} {Q : Value × List Value → Shared → Prop} (h : Q (.builtin "str.encode", [.str x t]) s) : wpAny (model prog w) A (getMethod (.str x t) "encode" pl) Q E s :=
  getMethod_builtin (typeIs_str _ _ _) F.plainAttrs_str F.slot_str_encode F.type_str_encode (fun _ e => nomatch e) h

def SrcB (prog : Program) (w : World) (A : Around) (h₀ : Heap) (L : Addr) (m : Str → Option Value) (env : Env) (elt : Expr) (x : Str) (scope : Scope) (cl : List (Str × Addr)) (Fin : Shared → List Value → List (Addr × Obj) → Prop) (xv : Value) (s₁ : Shared) : Prop :=
  ∃ (b : UInt8) (t : Tok) (news : List (Addr × Obj)), xv = .bytes #[b] t ∧ A.handled = none ∧ Fr h₀ L s₁.heap m ∧ News h₀ L s₁.heap news ∧
    ∀ s₂ : Shared, (∃ h, s₂ = { s₁ with heap := h }) → LCg.CompRest prog w A h₀ L m env elt x scope cl s₂ (fun _ => True) (fun i v => ∃ c u, (#[b] : Array UInt8)[i]? = some c ∧ v = .int (c.toNat : Int) u) (Fin s₂) 1 0 [] news

theorem eval_compB {elt iter : Expr} {x : Str} {px : Pos} {scope : Scope} {cl : List (Str × Addr)} {pos : Pos} {Q : Value → Shared → Prop} (_F₀ : Fr h₀ L s.heap m)
    (hclos : closureFor scope env = pure cl) (hcell : ∀ y ∈ scope.names, y.2 ≠ .cell) (hkind : scope.kind = .function)
    (hnames : ∀ y ∈ scope.names, y.2 = .local → scope.names.lookup y.1 = some .local) (hx : scope.names.lookup x = some .local)
    (h : wpAny (model prog w) A (eval iter env) (SrcB prog w A h₀ L m env elt x scope cl (fun s₂ => LCg.FinE h₀ L m s₂ Q)) E s)
    (hs : ∀ x, foldedSetIterable iter env x = pure x := by intro _; rfl) :
    wpAny (model prog w) A (eval (.ListComp elt [⟨.Name x px, iter, [], 0⟩] scope pos) env) Q E s := by
  rw [eval_ListComp]
  refine wpAny_comprehension_free (use := none) rfl hs hclos hkind hnames (wpAny_mono h (fun xv s₁ h₁ => ?_) fun _ _ e => e)
  obtain ⟨b, t, news, rfl, hh, F, N, R⟩ := h₁
  refine KBw.pyIter_bytes ?_
  have W := KBw.walks (prog := prog) (w := w) hh s₁.heap.objs.size #[b] t
  refine LCg.block_U W (by rw [sizeLine_eq]; show 1 ≤ _; decide) (fun i h st => let ⟨o, ho, _⟩ := st; ⟨o, ho⟩) (fun i h h' o nw st e e' _ _ _ => W.frame _ _ _ st fun b hb o2 h2 => ?_) hcell hkind hx ⟨_, Heap.get?_push_size _ rfl, rfl, rfl⟩ (fun b hb => ?_)
      (F.keeps fun _ _ e => Heap.get?_push_of_some _ e) (N.grown fun _ _ e => Heap.get?_push_of_some _ e) (Nat.ne_of_lt F.ns.lt) (next_is_new F) (fun p hp => Nat.ne_of_lt (Heap.lt_size (N p hp).1)) trivial (R _ ⟨_, rfl⟩) ?_
  · rw [List.mem_singleton.mp hb] at h2 ⊢
    rw [e] at h2
    rw [e', h2]
  · rw [List.mem_singleton.mp hb]
    show s₁.heap.objs.size < (s₁.heap.push _).objs.size
    rw [Heap.size_push]; exact Nat.lt_succ_self _
  · intro D C h tk m' ys news' F' N' o1 hn hC₀ hD₀ hCL hDL hCD offC fin
    refine ⟨m', hn, fun h'' hs'' => fin D h'' tk (F'.change hs'' hCL hC₀) (fun p hp => ?_) o1⟩
    refine ⟨hs''.extBut _ _ ?_ (N' p hp).1, (N' p hp).2⟩
    rcases List.mem_cons.mp hp with rfl | hp
    · exact Ne.symm hCD
    · exact offC p hp
end

theorem words_s_quote_1 : True := by
  k_with_none
  w_top off
  k_with "MINE ar" => (with_reducible first | assumption | decide | ((show @LT.lt Nat _ _ _); first | exact ar_n1 (by assumption) | exact ar_n2 (by assumption) | exact ar_n6 (by assumption) | exact ar_n12 (by assumption) | exact ar_n13 (by assumption) | exact ar_k1 (by assumption) | exact ar_k2 (by assumption) | exact ar_k3 (by assumption) | exact ar_k4 (by assumption) | exact ar_k8 (by assumption) | exact ar_m1 (by assumption) | exact ar_m2 (by assumption) | exact ar_m3 (by assumption) | exact ar_m4 (by assumption) | exact ar_m5 (by assumption) | exact ar_e4 (by assumption) | exact ar_e5 (by assumption) | exact ar_r1 (by assumption) | exact Nat.lt_succ_self _ | exact ar_r2 (by assumption) (by decide) | exact ar_r3 (by assumption) (by decide) | exact ar_n7 (by assumption) (by assumption) | exact ar_n8 (by assumption) (by assumption) | exact ar_n16 (by assumption) (by assumption) | exact ar_n20 (by assumption) (by assumption) | exact ar_n21 (by assumption) (by assumption) | exact ar_n23 (by assumption) (by assumption) | exact ar_n24 (by assumption) (by assumption) | exact ar_e17 (by assumption) (by assumption) | exact ar_e19 (by assumption) (by assumption) | exact ar_n14 (by assumption) (by assumption) (by assumption) | exact ar_n26 (by assumption) (by assumption) (by assumption) | exact ar_n27 (by assumption) (by assumption) (by assumption) | exact ar_n15 (by assumption) (by assumption) (by assumption) (by assumption) | exact ar_n22 (by assumption) (by assumption) (by assumption) (by assumption)) | ((show @LE.le Nat _ _ _); first | exact Nat.le_refl _ | exact Nat.le_add_right _ _ | exact ar_n3 (by assumption) | exact ar_n4 (by assumption) | exact ar_n5 (by assumption) | exact ar_k7 (by assumption) | exact ar_k10 (by assumption) | exact ar_k13 (by assumption) | exact ar_e1 (by assumption) | exact ar_e2 (by assumption) | exact ar_e3 (by assumption) | exact ar_e6 (by assumption) | exact ar_e7 (by assumption) | exact ar_e8 (by assumption) | exact ar_s1 (by assumption) | exact ar_w2 (by assumption) | exact ar_n25 (by assumption) | exact ar_n9 (by assumption) (by assumption) | exact ar_n17 (by assumption) (by assumption) | exact ar_n28 (by assumption) (by assumption) | exact ar_e9 (by assumption) (by assumption) | exact ar_e10 (by assumption) (by assumption) | exact ar_e18 (by assumption) (by assumption) | exact ar_s3 (by assumption) (by assumption) | exact ar_n10 (by assumption) (by assumption) (by assumption) | exact ar_n11 (by assumption) (by assumption) (by assumption)) | ((show @LT.lt Int _ _ _); first | exact ar_k9 (by assumption) | exact ar_n18 (by assumption) | exact ar_n19 (by assumption) (by assumption)) | ((show @LE.le Int _ _ _); first | exact Int.natCast_nonneg _) | ((show @Eq Nat _ _); first | exact ar_e11 (by assumption) | exact ar_e12 (by assumption) | exact ar_e13 (by assumption) | exact ar_e15 (by assumption) | exact ar_s2 (by assumption) | exact ar_s4 (by assumption) | exact ar_w6 (by assumption) (by assumption) | exact ar_nn (by assumption)) | ((show @Eq Int _ _); first | exact ar_i5 | exact ar_i6 | exact ar_i7 | exact ar_i8 (by assumption)) | ((show ¬ _); first | exact ar_k5 (by assumption) | exact ar_k6 (by assumption) | exact ar_k11 (by assumption) | exact ar_k12 (by assumption) | exact ar_k14 (by assumption) | exact ar_e14 (by assumption) | exact ar_e16 (by assumption) | exact ar_e20 (by assumption) | exact ar_q1 (by assumption) | exact ar_q2 (by assumption) | exact ar_q3 (by assumption) | exact ar_q4 (by assumption) | exact ar_q5 (by assumption) | exact ar_w7 (by assumption) | exact ar_w8 (by assumption) | exact ar_w14 (by assumption) | exact ar_w16 (by assumption) | exact ar_w18 (by assumption) | exact ar_w19 (by assumption) | exact ar_w20 (by assumption) | exact ar_o3 (by assumption) | exact ar_o4 (by assumption) | exact ar_d (by assumption) (by decide) | exact ar_l1 (by assumption) (by assumption) | exact ar_l2 (by assumption) (by assumption) | exact ar_l3 (by assumption) (by assumption) | exact ar_w17 (by assumption) (by assumption) | exact ar_lv (by assumption) (by assumption) (by assumption) | exact ar_nn2 (by assumption)) | ((show _ ∧ _); first | exact ar_w1 (by assumption) | exact ar_w10 (by assumption) | exact ar_w12 (by assumption) | exact ar_w13 (by assumption) | exact ar_o2 (by assumption) | exact ar_w4 (by assumption) (by assumption) | exact ar_i4 (by assumption) (by assumption)) | ((show _ ∨ _); first | exact ar_o1 (by assumption) | exact ar_w3 (by assumption) (by assumption) | exact ar_w5 (by assumption) (by assumption) | exact ar_w9 (by assumption) (by assumption) | exact ar_w11 (by assumption) (by assumption)) | ((show _ ↔ _); first | exact ar_z3 | exact ar_z4 | exact ar_z5) | ((show False); first | exact (ar_f1 (by assumption) (by assumption) (by assumption)).elim | exact (ar_f2 (by assumption) (by assumption) (by assumption)).elim | exact (ar_c1 (by assumption) (by assumption)).elim | exact (ar_c2 (by assumption) (by assumption)).elim | exact (ar_c3 (by assumption) (by assumption)).elim | exact (ar_c4 (by assumption) (by assumption)).elim | exact (ar_c5 (by assumption) (by assumption)).elim | exact (ar_c7 (by assumption) (by assumption)).elim | exact (ar_c8 (by assumption) (by assumption)).elim | exact (ar_c9 (by assumption) (by assumption)).elim | exact (ar_c10 (by assumption) (by assumption)).elim | exact (ar_c11 (by assumption) (by assumption)).elim | exact (ar_c12 (by assumption) (by assumption)).elim | exact (ar_c13 (by assumption) (by assumption)).elim | exact (ar_f3 (by assumption) (by assumption)).elim | exact (ar_f4 (by assumption) (by assumption)).elim | exact (ar_f5 (by assumption) (by assumption)).elim | exact (ar_f6 (by assumption) (by assumption)).elim | exact (ar_f7 (by assumption) (by assumption)).elim | exact (ar_f8 (by assumption) (by assumption)).elim | exact (ar_f9 (by assumption) (by assumption)).elim | exact (ar_f10 (by assumption) (by assumption)).elim) | ((show @Eq _ _ _); first | exact (ar_f1 (by assumption) (by assumption) (by assumption)).elim | exact (ar_f2 (by assumption) (by assumption) (by assumption)).elim | exact (ar_c1 (by assumption) (by assumption)).elim | exact (ar_c2 (by assumption) (by assumption)).elim | exact (ar_c3 (by assumption) (by assumption)).elim | exact (ar_c4 (by assumption) (by assumption)).elim | exact (ar_c5 (by assumption) (by assumption)).elim | exact (ar_c7 (by assumption) (by assumption)).elim | exact (ar_c8 (by assumption) (by assumption)).elim | exact (ar_c9 (by assumption) (by assumption)).elim | exact (ar_c10 (by assumption) (by assumption)).elim | exact (ar_c11 (by assumption) (by assumption)).elim | exact (ar_c12 (by assumption) (by assumption)).elim | exact (ar_c13 (by assumption) (by assumption)).elim | exact (ar_f3 (by assumption) (by assumption)).elim | exact (ar_f4 (by assumption) (by assumption)).elim | exact (ar_f5 (by assumption) (by assumption)).elim | exact (ar_f6 (by assumption) (by assumption)).elim | exact (ar_f7 (by assumption) (by assumption)).elim | exact (ar_f8 (by assumption) (by assumption)).elim | exact (ar_f9 (by assumption) (by assumption)).elim | exact (ar_f10 (by assumption) (by assumption)).elim) | (intro _; first | exact (ar_f1 (by assumption) (by assumption) (by assumption)).elim | exact (ar_f2 (by assumption) (by assumption) (by assumption)).elim | exact (ar_c1 (by assumption) (by assumption)).elim | exact (ar_c2 (by assumption) (by assumption)).elim | exact (ar_c3 (by assumption) (by assumption)).elim | exact (ar_c4 (by assumption) (by assumption)).elim | exact (ar_c5 (by assumption) (by assumption)).elim | exact (ar_c7 (by assumption) (by assumption)).elim | exact (ar_c8 (by assumption) (by assumption)).elim | exact (ar_c9 (by assumption) (by assumption)).elim | exact (ar_c10 (by assumption) (by assumption)).elim | exact (ar_c11 (by assumption) (by assumption)).elim | exact (ar_c12 (by assumption) (by assumption)).elim | exact (ar_c13 (by assumption) (by assumption)).elim | exact (ar_f3 (by assumption) (by assumption)).elim | exact (ar_f4 (by assumption) (by assumption)).elim | exact (ar_f5 (by assumption) (by assumption)).elim | exact (ar_f6 (by assumption) (by assumption)).elim | exact (ar_f7 (by assumption) (by assumption)).elim | exact (ar_f8 (by assumption) (by assumption)).elim | exact (ar_f9 (by assumption) (by assumption)).elim | exact (ar_f10 (by assumption) (by assumption)).elim) | exact ar_i1 (by assumption) | exact ar_i2 (by assumption) | exact ar_i3 (by assumption) (by decide))
  k_with "MINE enter" => (refine' code_def ?zqk1 ?zqk2 ?zqk3 ?zqk4 ?zqk5 ?zqkA ?zqkF ?zqkK ?zqk6 ?zqk7 ?zqk8 ?zqk9 ?zqkB ?_ ?zqc2 ?zqc3 ?zqc4 ?zqc5; (case zqkA => exact rfl); (case zqkF => exact rfl); (case zqkK => assumption); (case zqk1 => k_asm); (case zqk2 => k_asm); (case zqk3 => k_asm); (case zqk4 => k_asm); (case zqk5 => k_asm); (case zqk6 => k_is); (case zqk7 => k_is); (case zqk8 => ktr_room); (case zqk9 => first | exact BindsTo.of_eq rfl | exact binds_K (by k_in) rfl (by k_is) rfl rfl rfl); (case zqc5 => decide); (case zqkB => exact locs rfl); (case zqc2 => exact rfl); (case zqc3 => exact rfl); (case zqc4 => exact rfl); k_whole; intro g' L' h' FG' F' N' B' X' T'; (try dsimp only); (try k_lift B'); (try k_fold))
  k_with "exec While BoolOp cons nil" => (refine stop ?_)
  k_with "exec While Compare cons nil" => (refine stop ?_)
  k_with "MINE same" => (intro z h2 h3; simp only [List.forall_mem_cons, List.not_mem_nil, false_implies, implies_true, and_true, ne_eq] at h2; (try simp only [List.contains_cons, List.contains_nil, Bool.or_false, Bool.or_eq_false_iff, beq_eq_false_iff_ne, ne_eq] at h3); simp [kstB, h2, h3])
  k_with "KswPost" => (refine stop ?_)
  k_with "subscriptTail Name Name str int" => (k_here; (with_unfolding_all refine' item_a ?zqk0 ?zqk1 ?zqk2 ?zqk3 ?_; (case zqk0 => assumption); (case zqk1 => first | rfl | exact Int.natCast_add _ _ | omega); (case zqk2 => omega); (case zqk3 => omega)); intro hItem')
  k_with "subscriptTail Name BinOp str int" => (k_here; (with_unfolding_all refine' item_a (n := _ + 1) ?zqk0 ?zqk1 ?zqk2 ?zqk3 ?_; (case zqk0 => assumption); (case zqk1 => rfl); (case zqk2 => omega); (case zqk3 => omega)); intro hItem')
  k_with "compareOp Eq str str" => (k_here; first | refine eq_c lit_lt ?_ | refine eq_c lit_gt ?_ | refine eq_c lit_bs ?_ | refine eq_c lit_lp ?_ | refine eq_c lit_rp ?_ | refine eq_c lit_nl ?_ | refine eq_c lit_cr ?_ | refine eq_c lit_del ?_ | refine eq_c lit_nul ?_ | refine eq_c lit_blank ?_)
  k_with "compareOp In str str" => (k_here; first | refine in_c _ (in_ws _) ?_ | refine in_c _ (in_bt _) ?_ | refine in_c _ (in_nr _) ?_ | refine in_c _ (in_bad _) ?_ | refine in_c _ (in_punct _) ?_)
  k_with "call builtin:len" => (k_here; (with_reducible show wpAny _ _ (call (Value.builtin "len") [Value.str _ _]) _ _ _); refine len_c (by omega) ?_)
  k_with "call ref" => (k_here; (with_reducible show wpAny _ _ (call (Value.ref _) _ _) _ _ _); refine stop ?_)
  k_with "MINE room" => ((case B => k_asm); (case F => k_asm); (case X => k_asm); (case N => k_asm); (case T => k_asm); (case hk => first | exact rfl | assumption); (case hd => ktr_room); (case hu => ktr_units))
  k_with "getMethod ref" => (k_here; (with_reducible show wpAny _ _ (getMethod _ (Str.ofString "sub") _) _ _ _); k_dflt (refine' getM ?zqF ?zqX ?zql slot_sub type_sub ?_; (case zqF => k_asm); (case zqX => k_asm); (case zql => k_is)))
  k_with "getMethod ref" => (k_here; (with_reducible show wpAny _ _ (getMethod _ (Str.ofString "match") _) _ _ _); k_dflt (refine' getM ?zqF ?zqX ?zql slot_match type_match ?_; (case zqF => k_asm); (case zqX => k_asm); (case zql => k_is)))
  k_with "callWith ref" => (k_here; k_dflt (refine' callWith_K ?zqk1 ?zqk2 ?_; (case zqk1 => k_asm); (case zqk2 => k_is); k_whole))
  k_with "call builtin:list.append" => (k_here; k_dflt (refine' append_T ?zqF ?zqN ?zql ?zqz ?_; (case zqF => k_asm); (case zqN => k_asm); (case zql => assumption); (case zqz => assumption)); intro h' F' N'; (try k_sweep))
  k_with "getMethod ref" => (k_here; (with_reducible show wpAny _ _ (getMethod _ (Str.ofString "group") _) _ _ _); k_dflt (refine' getMm ?zqN ?zqm ?_; (case zqN => k_asm); (case zqm => k_mem)))
  k_with "call builtin:re.Match.group" => (k_here; k_dflt (refine' group_E ?zqz ?zqN ?zqm ?zqn ?_; (case zqN => k_asm); (case zqm => k_mem); (case zqn => k_mem); (case zqz => omega)); intro tk')
  k_with "truthy str" => (k_here; refine truthy_c (by simp [Array.size_extract]; omega) ?_)
  k_with "binaryOp Add str str" => (k_here; refine add_c (by simp [Array.size_extract, lit_nil]; omega) ?_; intro ta' tka')
  k_with "MINE lam" => (refine' kla_code ?zqk1 ?zqk2 ?zqk3 ?zqk4 ?zqk5 ?zqkA ?zqkF ?zqkK ?zqk6 ?zqk7 ?zqk8 ?zqk9 ?zqkB ?_ ?zqc2 ?zqc3 ?zqc4 ?zqc5; (case zqkA => exact rfl); (case zqkF => exact rfl); (case zqkK => exact rfl); (case zqk1 => k_asm); (case zqk2 => k_asm); (case zqk3 => k_asm); (case zqk4 => k_asm); (case zqk5 => k_asm); (case zqk6 => k_mem); (case zqk7 => exact codeRec_news (by k_asm) (by k_mem) (by assumption) (by assumption)); (case zqk8 => ktr_room); (case zqk9 => exact rfl); (case zqc5 => decide); (case zqkB => exact locs rfl); (case zqc2 => exact rfl); (case zqc3 => exact rfl); (case zqc4 => exact rfl); k_whole; intro g' L' h' FG' F' N' B' X' T'; (try dsimp only); (try k_lift B'); (try k_fold))
  k_with "compareOp NotIn str str" => (k_here; first | refine notin_c _ (in_ws _) ?_ | refine notin_c _ (in_bt _) ?_ | refine notin_c _ (in_nr _) ?_ | refine notin_c _ (in_bad _) ?_ | refine notin_c _ (in_punct _) ?_)
  k_with "ite" => (first | (with_reducible refine ite_ff9 ?_) | (with_reducible refine ite_tt9 ?_))
  k_with "call builtin:str.join" => (k_here; k_dflt (refine' join_c ?zqN ?zqm ?zqs ?zqz ?_; (case zqN => k_asm); (case zqm => k_mem); (case zqs => assumption); (case zqz => assumption)); intro tj' tkj')
  exact True.intro
def pctc (c : Nat) : List Nat := if c = 60 then [37, 51, 67] else if c = 62 then [37, 51, 69] else if c = 92 then [37, 53, 67] else if c = 34 then [37, 50, 50] else if c = 39 then [37, 50, 55] else if c = 32 then [37, 50, 48] else [c]
theorem pctc_self {c : Nat} (h : ¬ (c = 60 ∨ c = 62 ∨ c = 92 ∨ c = 34 ∨ c = 39 ∨ c = 32)) : pctc c = [c] := by
  unfold pctc
  rw [if_neg fun e => h (.inl e), if_neg fun e => h (.inr (.inl e)), if_neg fun e => h (.inr (.inr (.inl e))), if_neg fun e => h (.inr (.inr (.inr (.inl e)))), if_neg fun e => h (.inr (.inr (.inr (.inr (.inl e))))), if_neg fun e => h (.inr (.inr (.inr (.inr (.inr e)))))]
theorem cat_pctc (l : List Nat) : cat (l.map fun c => (⟨(pctc c).toArray⟩ : Str)) = l.flatMap pctc := by
  induction l with
  | nil => rfl
  | cons c l ih => simp only [List.map_cons, List.flatMap_cons, ← ih]; simp [cat]
theorem pctc_len (l : List Nat) : (l.flatMap pctc).length ≤ 3 * l.length := by
  induction l with
  | nil => simp
  | cons c l ih =>
    have : (pctc c).length ≤ 3 := by unfold pctc; (repeat' split) <;> simp
    rw [List.flatMap_cons, List.length_append, List.length_cons]
    omega
theorem in_kept {c : Nat} (ha : alpha c) (h10 : c ≠ 10) : c ∈ (Str.ofString "ABCDEFGHIJKLMNOPQRSTUVWXYZabcdefghijklmnopqrstuvwxyz0123456789_.-~:/?#@!$&()*+,;=%").cps.toList ↔ ¬ (c = 60 ∨ c = 62 ∨ c = 92 ∨ c = 34 ∨ c = 39 ∨ c = 32) := by
  unfold alpha at ha
  rcases ha with h | h | h | h | h | h | h | h | h | h | h <;> first | exact absurd h h10 | (subst h; decide)
theorem words_s_quote_2 : True := by
  k_with "compareOp In str str" => (k_here; refine in_c _ (in_kept (by assumption) (by assumption)) ?_)
  k_with "getMethod str" => (k_here; (with_reducible show wpAny _ _ (getMethod (Value.str _ _) (Str.ofString "encode") _) _ _ _); refine enc_method ?_)
  exact True.intro
theorem enc_any {prog : Program} {w : World} {A : Around} {E : Value → Shared → Prop} {s : Shared} {c : Nat} {t u : Tok} {Q : Value → Shared → Prop} (hb : c = 60 ∨ c = 62 ∨ c = 92 ∨ c = 34 ∨ c = 39 ∨ c = 32)
    (h : ∀ (b : UInt8) t' k, b.toNat = c → Q (.bytes #[b] t') { s with toks := k }) : wpAny (model prog w) A (call (.builtin "str.encode") [.str ⟨#[c]⟩ t, .str (Str.ofString "utf-8") u]) Q E s := by
  rcases hb with rfl | rfl | rfl | rfl | rfl | rfl
  · exact enc_call (enc_60 _ _) fun t' k => h 60 t' k rfl
  · exact enc_call (enc_62 _ _) fun t' k => h 62 t' k rfl
  · exact enc_call (enc_92 _ _) fun t' k => h 92 t' k rfl
  · exact enc_call (enc_34 _ _) fun t' k => h 34 t' k rfl
  · exact enc_call (enc_39 _ _) fun t' k => h 39 t' k rfl
  · exact enc_call (enc_32 _ _) fun t' k => h 32 t' k rfl
theorem words_s_quote_3 : True := by
  k_with "call builtin:str.encode" => (k_here; refine enc_any (by assumption) ?_; intro b9 te' tke' hb9)
  k_with "eval ListComp" => (refine stop ?_)
  k_with "exec Assign cons ListComp" => (refine stop ?_)
  k_with "MINE enterC" => (refine' code_defC ?zqk1 ?zqk2 ?zqk3 ?zqk4 ?zqk5 ?zqkA ?zqkF ?zqkK ?zqk6 ?zqk7 ?zqk8 ?zqk9 ?zqkB ?zqkD ?_ ?zqc2 ?zqc3 ?zqc4; (case zqkA => exact rfl); (case zqkF => exact rfl); (case zqkK => assumption); (case zqk1 => k_asm); (case zqk2 => k_asm); (case zqk3 => k_asm); (case zqk4 => k_asm); (case zqk5 => k_asm); (case zqk6 => k_is); (case zqk7 => k_is); (case zqk8 => ktr_room); (case zqk9 => first | exact BindsTo.of_eq rfl | exact binds_K (by k_in) rfl (by k_is) rfl rfl rfl); (case zqkB => exact rfl); (case zqkD => decide +kernel); (case zqc2 => exact rfl); (case zqc3 => exact rfl); (case zqc4 => exact rfl); k_whole; intro g' L' h' tk' cells' FG' F' N' Y' B' X' T' l1; (try k_lt l1); k_cells Y'; (try simp only [List.cons_append, List.nil_append] at N'); (try dsimp only); (try k_lift B'); (try k_fold))
  exact True.intro
theorem compEnd_cut {prog : Program} {w : World} {A : Around} {E : Value → Shared → Prop} {s s₁ : Shared} {p : Sem Value} {h₀ : Heap} {L I C D : Addr} {m : Str → Option Value} {oI oC oD : Obj} {S : List (Addr × Obj) → Prop} {rest : Value → List (Addr × Obj) → Prop} {news9 : List (Addr × Obj)} {g : Str}
    (h : wpAny (model prog w) A p (LCg.CompEnd h₀ L m s₁ I oI C oC D oD S (fun y n => n = news9 ∧ ∃ t, y = .str g t)) E s) (k : ∀ t, rest (.str g t) news9) : wpAny (model prog w) A p (LCg.CompEnd h₀ L m s₁ I oI C oC D oD S rest) E s := by
  refine wpAny_mono h (fun y s₄ hh => ?_) fun _ _ e => e
  obtain ⟨h', tk, n, e, F, N, o, hS, hn, t, hy⟩ := hh
  subst hn hy
  exact ⟨h', tk, n, e, F, N, o, hS, k t⟩
theorem octet_eq {b : UInt8} {n : UInt8} (h : b.toNat = n.toNat) : b = n := UInt8.toNat_inj.mp h
set_option maxHeartbeats 8000000 in
theorem quote_spec {w : World} {p : Program} {loose : List Str} {mean : ExcName → Option Value} {mg mb : Str → Option Value} {x : Str} {st kt : Tok}
   (hsz : x.cps.size < 100) (hal : Alpha x) (hn : ∀ i (h : i < x.cps.size), x.cps[i] ≠ 10) :
   SpecK w p loose mean mg mb 38 2 [.str x st] [(Str.ofString "safe", .str (Str.ofString ":/?#@!$&()*+,;=%") kt)] (fun tl r => tl = [] ∧ ∃ t, r = .str ⟨(x.cps.toList.flatMap pctc).toArray⟩ t) := by
  unfold SpecK
  k_fill
  intro dp un gd cn cs a ccd cl outer A₀ base h₀ L m news s Q E B F X N T hk hd hu hret
  refine wpAny_call ?_
  k_dflt walk_at "MINE enterC"
  rename (∀ p ∈ news, p.1 < _) => lq
  have hqc : ∀ q ∈ news, q.1 ≠ _ + 1 := fun q hq => Nat.ne_of_lt (Nat.lt_succ_of_lt (lq q hq))
  k_steps
  refine unstop ?_
  k_dflt (refine assign_comp (by k_asm) (by rfl) (by with_unfolding_all rfl) (by with_unfolding_all rfl) (by decide) (by rfl) (by decide) (by rfl) (by rfl) (by rfl) ?_)
  k_steps
  refine ⟨x, _, _, rfl, by rfl, by k_asm, by k_asm, by rw [sizeLine_eq]; omega, fun s₂ hs₂ => ?_⟩
  obtain ⟨g2, rfl⟩ := hs₂
  refine rest_text (fun c => ⟨(pctc c).toArray⟩) ?_ ?_
  · intro i hi t I oI C oC D m₂ ys h tk E' hC hx F2 N2 off ne
    have hac := hal i hi
    have h10 := hn i hi
    revert hac h10 hx
    generalize x.cps[i] = c
    intro hac h10 hx
    by_cases hb : c = 60 ∨ c = 62 ∨ c = 92 ∨ c = 34 ∨ c = 39 ∨ c = 32
    · k_steps
      refine unstop ?_
      k_dflt (refine eval_compB (by k_asm) (by with_unfolding_all rfl) (by decide) (by rfl) (by decide) (by rfl) ?_)
      k_steps
      rename (UInt8.toNat _ = c) => hbc
      refine ⟨_, _, _, rfl, by rfl, by k_asm, by k_asm, fun s₂ hs₂ => ?_⟩
      obtain ⟨g3, rfl⟩ := hs₂
      refine LCg.CompRest.succ ?_
      intro v I2 oI2 C2 oC2 D2 m3 h3 tk3 E3 hv3 hC3 hx3 F3 N3 off3 ne3
      obtain ⟨c3, u3, hc3, rfl⟩ := hv3
      cases hc3
      refine' compEnd_cut (g := ⟨(pctc c).toArray⟩) ?oa ?ob
      case oa =>
        rcases hb with rfl | rfl | rfl | rfl | rfl | rfl
        · obtain rfl := octet_eq (n := 60) hbc
          k_steps
          exact LCg.CompEnd.intro F3 N3 _ (fun p hp => hp) off3 trivial ⟨rfl, _, congrArg (fun z => Value.str z _) (by decide)⟩
        · obtain rfl := octet_eq (n := 62) hbc
          k_steps
          exact LCg.CompEnd.intro F3 N3 _ (fun p hp => hp) off3 trivial ⟨rfl, _, congrArg (fun z => Value.str z _) (by decide)⟩
        · obtain rfl := octet_eq (n := 92) hbc
          k_steps
          exact LCg.CompEnd.intro F3 N3 _ (fun p hp => hp) off3 trivial ⟨rfl, _, congrArg (fun z => Value.str z _) (by decide)⟩
        · obtain rfl := octet_eq (n := 34) hbc
          k_steps
          exact LCg.CompEnd.intro F3 N3 _ (fun p hp => hp) off3 trivial ⟨rfl, _, congrArg (fun z => Value.str z _) (by decide)⟩
        · obtain rfl := octet_eq (n := 39) hbc
          k_steps
          exact LCg.CompEnd.intro F3 N3 _ (fun p hp => hp) off3 trivial ⟨rfl, _, congrArg (fun z => Value.str z _) (by decide)⟩
        · obtain rfl := octet_eq (n := 32) hbc
          k_steps
          exact LCg.CompEnd.intro F3 N3 _ (fun p hp => hp) off3 trivial ⟨rfl, _, congrArg (fun z => Value.str z _) (by decide)⟩
      case ob =>
        intro t4
        refine LCg.CompRest.zero ?_
        intro D4 h4 tk4 F4 N4 o4
        have hs4 : StrsAre ([] ++ [Value.str ⟨(pctc c).toArray⟩ t4]) [⟨(pctc c).toArray⟩] := .cons _ _ .nil
        have hz4 : (cat [(⟨(pctc c).toArray⟩ : Str)]).length < 1000 := by
          have : (pctc c).length ≤ 3 := by unfold pctc; (repeat' split) <;> simp
          rw [cat_one]
          simp
          omega
        k_steps
        refine LCg.CompEnd.intro F4 N4 _ (fun p hp => .tail _ hp) off trivial ⟨rfl, _, congrArg (fun z => Value.str z _) (show (⟨(cat [(⟨(pctc c).toArray⟩ : Str)]).toArray⟩ : Str) = ⟨(pctc c).toArray⟩ by rw [cat_one])⟩
    · k_steps
      refine LCg.CompEnd.intro F2 N2 _ (fun p hp => hp) off trivial ⟨rfl, t, ?_⟩
      rw [pctc_self hb]
  · intro ys hys
    have hcz : (cat (x.cps.toList.map fun c => (⟨(pctc c).toArray⟩ : Str))).length < 1000 := by
      rw [cat_pctc]
      have := pctc_len x.cps.toList
      simp at this ⊢
      omega
    k_steps
    rename News h₀ L _ _ => N9
    rw [cat_pctc]
    exact hret _ [] _ _ (by assumption) (fun q hq => N9 q (.tail _ (.tail _ hq))) (fun _ _ _ h => nomatch h) ⟨rfl, _, rfl⟩

theorem words_s_esc_1 : True := by
  k_with_none
  w_top off
  k_with "MINE ar" => (with_reducible first | assumption | decide | ((show @LT.lt Nat _ _ _); first | exact ar_n1 (by assumption) | exact ar_n2 (by assumption) | exact ar_n6 (by assumption) | exact ar_n12 (by assumption) | exact ar_n13 (by assumption) | exact ar_k1 (by assumption) | exact ar_k2 (by assumption) | exact ar_k3 (by assumption) | exact ar_k4 (by assumption) | exact ar_k8 (by assumption) | exact ar_m1 (by assumption) | exact ar_m2 (by assumption) | exact ar_m3 (by assumption) | exact ar_m4 (by assumption) | exact ar_m5 (by assumption) | exact ar_e4 (by assumption) | exact ar_e5 (by assumption) | exact ar_r1 (by assumption) | exact Nat.lt_succ_self _ | exact ar_r2 (by assumption) (by decide) | exact ar_r3 (by assumption) (by decide) | exact ar_n7 (by assumption) (by assumption) | exact ar_n8 (by assumption) (by assumption) | exact ar_n16 (by assumption) (by assumption) | exact ar_n20 (by assumption) (by assumption) | exact ar_n21 (by assumption) (by assumption) | exact ar_n23 (by assumption) (by assumption) | exact ar_n24 (by assumption) (by assumption) | exact ar_e17 (by assumption) (by assumption) | exact ar_e19 (by assumption) (by assumption) | exact ar_n14 (by assumption) (by assumption) (by assumption) | exact ar_n26 (by assumption) (by assumption) (by assumption) | exact ar_n27 (by assumption) (by assumption) (by assumption) | exact ar_n15 (by assumption) (by assumption) (by assumption) (by assumption) | exact ar_n22 (by assumption) (by assumption) (by assumption) (by assumption)) | ((show @LE.le Nat _ _ _); first | exact Nat.le_refl _ | exact Nat.le_add_right _ _ | exact ar_n3 (by assumption) | exact ar_n4 (by assumption) | exact ar_n5 (by assumption) | exact ar_k7 (by assumption) | exact ar_k10 (by assumption) | exact ar_k13 (by assumption) | exact ar_e1 (by assumption) | exact ar_e2 (by assumption) | exact ar_e3 (by assumption) | exact ar_e6 (by assumption) | exact ar_e7 (by assumption) | exact ar_e8 (by assumption) | exact ar_s1 (by assumption) | exact ar_w2 (by assumption) | exact ar_n25 (by assumption) | exact ar_n9 (by assumption) (by assumption) | exact ar_n17 (by assumption) (by assumption) | exact ar_n28 (by assumption) (by assumption) | exact ar_e9 (by assumption) (by assumption) | exact ar_e10 (by assumption) (by assumption) | exact ar_e18 (by assumption) (by assumption) | exact ar_s3 (by assumption) (by assumption) | exact ar_n10 (by assumption) (by assumption) (by assumption) | exact ar_n11 (by assumption) (by assumption) (by assumption)) | ((show @LT.lt Int _ _ _); first | exact ar_k9 (by assumption) | exact ar_n18 (by assumption) | exact ar_n19 (by assumption) (by assumption)) | ((show @LE.le Int _ _ _); first | exact Int.natCast_nonneg _) | ((show @Eq Nat _ _); first | exact ar_e11 (by assumption) | exact ar_e12 (by assumption) | exact ar_e13 (by assumption) | exact ar_e15 (by assumption) | exact ar_s2 (by assumption) | exact ar_s4 (by assumption) | exact ar_w6 (by assumption) (by assumption) | exact ar_nn (by assumption)) | ((show @Eq Int _ _); first | exact ar_i5 | exact ar_i6 | exact ar_i7 | exact ar_i8 (by assumption)) | ((show ¬ _); first | exact ar_k5 (by assumption) | exact ar_k6 (by assumption) | exact ar_k11 (by assumption) | exact ar_k12 (by assumption) | exact ar_k14 (by assumption) | exact ar_e14 (by assumption) | exact ar_e16 (by assumption) | exact ar_e20 (by assumption) | exact ar_q1 (by assumption) | exact ar_q2 (by assumption) | exact ar_q3 (by assumption) | exact ar_q4 (by assumption) | exact ar_q5 (by assumption) | exact ar_w7 (by assumption) | exact ar_w8 (by assumption) | exact ar_w14 (by assumption) | exact ar_w16 (by assumption) | exact ar_w18 (by assumption) | exact ar_w19 (by assumption) | exact ar_w20 (by assumption) | exact ar_o3 (by assumption) | exact ar_o4 (by assumption) | exact ar_d (by assumption) (by decide) | exact ar_l1 (by assumption) (by assumption) | exact ar_l2 (by assumption) (by assumption) | exact ar_l3 (by assumption) (by assumption) | exact ar_w17 (by assumption) (by assumption) | exact ar_lv (by assumption) (by assumption) (by assumption) | exact ar_nn2 (by assumption)) | ((show _ ∧ _); first | exact ar_w1 (by assumption) | exact ar_w10 (by assumption) | exact ar_w12 (by assumption) | exact ar_w13 (by assumption) | exact ar_o2 (by assumption) | exact ar_w4 (by assumption) (by assumption) | exact ar_i4 (by assumption) (by assumption)) | ((show _ ∨ _); first | exact ar_o1 (by assumption) | exact ar_w3 (by assumption) (by assumption) | exact ar_w5 (by assumption) (by assumption) | exact ar_w9 (by assumption) (by assumption) | exact ar_w11 (by assumption) (by assumption)) | ((show _ ↔ _); first | exact ar_z3 | exact ar_z4 | exact ar_z5) | ((show False); first | exact (ar_f1 (by assumption) (by assumption) (by assumption)).elim | exact (ar_f2 (by assumption) (by assumption) (by assumption)).elim | exact (ar_c1 (by assumption) (by assumption)).elim | exact (ar_c2 (by assumption) (by assumption)).elim | exact (ar_c3 (by assumption) (by assumption)).elim | exact (ar_c4 (by assumption) (by assumption)).elim | exact (ar_c5 (by assumption) (by assumption)).elim | exact (ar_c7 (by assumption) (by assumption)).elim | exact (ar_c8 (by assumption) (by assumption)).elim | exact (ar_c9 (by assumption) (by assumption)).elim | exact (ar_c10 (by assumption) (by assumption)).elim | exact (ar_c11 (by assumption) (by assumption)).elim | exact (ar_c12 (by assumption) (by assumption)).elim | exact (ar_c13 (by assumption) (by assumption)).elim | exact (ar_f3 (by assumption) (by assumption)).elim | exact (ar_f4 (by assumption) (by assumption)).elim | exact (ar_f5 (by assumption) (by assumption)).elim | exact (ar_f6 (by assumption) (by assumption)).elim | exact (ar_f7 (by assumption) (by assumption)).elim | exact (ar_f8 (by assumption) (by assumption)).elim | exact (ar_f9 (by assumption) (by assumption)).elim | exact (ar_f10 (by assumption) (by assumption)).elim) | ((show @Eq _ _ _); first | exact (ar_f1 (by assumption) (by assumption) (by assumption)).elim | exact (ar_f2 (by assumption) (by assumption) (by assumption)).elim | exact (ar_c1 (by assumption) (by assumption)).elim | exact (ar_c2 (by assumption) (by assumption)).elim | exact (ar_c3 (by assumption) (by assumption)).elim | exact (ar_c4 (by assumption) (by assumption)).elim | exact (ar_c5 (by assumption) (by assumption)).elim | exact (ar_c7 (by assumption) (by assumption)).elim | exact (ar_c8 (by assumption) (by assumption)).elim | exact (ar_c9 (by assumption) (by assumption)).elim | exact (ar_c10 (by assumption) (by assumption)).elim | exact (ar_c11 (by assumption) (by assumption)).elim | exact (ar_c12 (by assumption) (by assumption)).elim | exact (ar_c13 (by assumption) (by assumption)).elim | exact (ar_f3 (by assumption) (by assumption)).elim | exact (ar_f4 (by assumption) (by assumption)).elim | exact (ar_f5 (by assumption) (by assumption)).elim | exact (ar_f6 (by assumption) (by assumption)).elim | exact (ar_f7 (by assumption) (by assumption)).elim | exact (ar_f8 (by assumption) (by assumption)).elim | exact (ar_f9 (by assumption) (by assumption)).elim | exact (ar_f10 (by assumption) (by assumption)).elim) | (intro _; first | exact (ar_f1 (by assumption) (by assumption) (by assumption)).elim | exact (ar_f2 (by assumption) (by assumption) (by assumption)).elim | exact (ar_c1 (by assumption) (by assumption)).elim | exact (ar_c2 (by assumption) (by assumption)).elim | exact (ar_c3 (by assumption) (by assumption)).elim | exact (ar_c4 (by assumption) (by assumption)).elim | exact (ar_c5 (by assumption) (by assumption)).elim | exact (ar_c7 (by assumption) (by assumption)).elim | exact (ar_c8 (by assumption) (by assumption)).elim | exact (ar_c9 (by assumption) (by assumption)).elim | exact (ar_c10 (by assumption) (by assumption)).elim | exact (ar_c11 (by assumption) (by assumption)).elim | exact (ar_c12 (by assumption) (by assumption)).elim | exact (ar_c13 (by assumption) (by assumption)).elim | exact (ar_f3 (by assumption) (by assumption)).elim | exact (ar_f4 (by assumption) (by assumption)).elim | exact (ar_f5 (by assumption) (by assumption)).elim | exact (ar_f6 (by assumption) (by assumption)).elim | exact (ar_f7 (by assumption) (by assumption)).elim | exact (ar_f8 (by assumption) (by assumption)).elim | exact (ar_f9 (by assumption) (by assumption)).elim | exact (ar_f10 (by assumption) (by assumption)).elim) | exact ar_i1 (by assumption) | exact ar_i2 (by assumption) | exact ar_i3 (by assumption) (by decide))
  k_with "MINE enter" => (refine' code_def ?zqk1 ?zqk2 ?zqk3 ?zqk4 ?zqk5 ?zqkA ?zqkF ?zqkK ?zqk6 ?zqk7 ?zqk8 ?zqk9 ?zqkB ?_ ?zqc2 ?zqc3 ?zqc4 ?zqc5; (case zqkA => exact rfl); (case zqkF => exact rfl); (case zqkK => assumption); (case zqk1 => k_asm); (case zqk2 => k_asm); (case zqk3 => k_asm); (case zqk4 => k_asm); (case zqk5 => k_asm); (case zqk6 => k_is); (case zqk7 => k_is); (case zqk8 => ktr_room); (case zqk9 => first | exact BindsTo.of_eq rfl | exact binds_K (by k_in) rfl (by k_is) rfl rfl rfl); (case zqc5 => decide); (case zqkB => exact locs rfl); (case zqc2 => exact rfl); (case zqc3 => exact rfl); (case zqc4 => exact rfl); k_whole; intro g' L' h' FG' F' N' B' X' T'; (try dsimp only); (try k_lift B'); (try k_fold))
  k_with "exec While BoolOp cons nil" => (refine stop ?_)
  k_with "exec While Compare cons nil" => (refine stop ?_)
  k_with "MINE same" => (intro z h2 h3; simp only [List.forall_mem_cons, List.not_mem_nil, false_implies, implies_true, and_true, ne_eq] at h2; (try simp only [List.contains_cons, List.contains_nil, Bool.or_false, Bool.or_eq_false_iff, beq_eq_false_iff_ne, ne_eq] at h3); simp [kstB, h2, h3])
  k_with "KswPost" => (refine stop ?_)
  k_with "subscriptTail Name Name str int" => (k_here; (with_unfolding_all refine' item_a ?zqk0 ?zqk1 ?zqk2 ?zqk3 ?_; (case zqk0 => assumption); (case zqk1 => first | rfl | exact Int.natCast_add _ _ | omega); (case zqk2 => omega); (case zqk3 => omega)); intro hItem')
  k_with "subscriptTail Name BinOp str int" => (k_here; (with_unfolding_all refine' item_a (n := _ + 1) ?zqk0 ?zqk1 ?zqk2 ?zqk3 ?_; (case zqk0 => assumption); (case zqk1 => rfl); (case zqk2 => omega); (case zqk3 => omega)); intro hItem')
  k_with "compareOp Eq str str" => (k_here; first | refine eq_c lit_lt ?_ | refine eq_c lit_gt ?_ | refine eq_c lit_bs ?_ | refine eq_c lit_lp ?_ | refine eq_c lit_rp ?_ | refine eq_c lit_nl ?_ | refine eq_c lit_cr ?_ | refine eq_c lit_del ?_ | refine eq_c lit_nul ?_ | refine eq_c lit_blank ?_)
  k_with "compareOp In str str" => (k_here; first | refine in_c _ (in_ws _) ?_ | refine in_c _ (in_bt _) ?_ | refine in_c _ (in_nr _) ?_ | refine in_c _ (in_bad _) ?_ | refine in_c _ (in_punct _) ?_)
  k_with "call builtin:len" => (k_here; (with_reducible show wpAny _ _ (call (Value.builtin "len") [Value.str _ _]) _ _ _); refine len_c (by omega) ?_)
  k_with "call ref" => (k_here; (with_reducible show wpAny _ _ (call (Value.ref _) _ _) _ _ _); refine stop ?_)
  k_with "MINE room" => ((case B => k_asm); (case F => k_asm); (case X => k_asm); (case N => k_asm); (case T => k_asm); (case hk => first | exact rfl | assumption); (case hd => ktr_room); (case hu => ktr_units))
  k_with "getMethod ref" => (k_here; (with_reducible show wpAny _ _ (getMethod _ (Str.ofString "sub") _) _ _ _); k_dflt (refine' getM ?zqF ?zqX ?zql slot_sub type_sub ?_; (case zqF => k_asm); (case zqX => k_asm); (case zql => k_is)))
  k_with "getMethod ref" => (k_here; (with_reducible show wpAny _ _ (getMethod _ (Str.ofString "match") _) _ _ _); k_dflt (refine' getM ?zqF ?zqX ?zql slot_match type_match ?_; (case zqF => k_asm); (case zqX => k_asm); (case zql => k_is)))
  k_with "callWith ref" => (k_here; k_dflt (refine' callWith_K ?zqk1 ?zqk2 ?_; (case zqk1 => k_asm); (case zqk2 => k_is); k_whole))
  k_with "call builtin:list.append" => (k_here; k_dflt (refine' append_T ?zqF ?zqN ?zql ?zqz ?_; (case zqF => k_asm); (case zqN => k_asm); (case zql => assumption); (case zqz => assumption)); intro h' F' N'; (try k_sweep))
  k_with "getMethod ref" => (k_here; (with_reducible show wpAny _ _ (getMethod _ (Str.ofString "group") _) _ _ _); k_dflt (refine' getMm ?zqN ?zqm ?_; (case zqN => k_asm); (case zqm => k_mem)))
  k_with "call builtin:re.Match.group" => (k_here; k_dflt (refine' group_E ?zqz ?zqN ?zqm ?zqn ?_; (case zqN => k_asm); (case zqm => k_mem); (case zqn => k_mem); (case zqz => omega)); intro tk')
  k_with "truthy str" => (k_here; refine truthy_c (by simp [Array.size_extract]; omega) ?_)
  k_with "binaryOp Add str str" => (k_here; refine add_c (by simp [Array.size_extract, lit_nil]; omega) ?_; intro ta' tka')
  k_with "MINE lam" => (refine' kla_code ?zqk1 ?zqk2 ?zqk3 ?zqk4 ?zqk5 ?zqkA ?zqkF ?zqkK ?zqk6 ?zqk7 ?zqk8 ?zqk9 ?zqkB ?_ ?zqc2 ?zqc3 ?zqc4 ?zqc5; (case zqkA => exact rfl); (case zqkF => exact rfl); (case zqkK => exact rfl); (case zqk1 => k_asm); (case zqk2 => k_asm); (case zqk3 => k_asm); (case zqk4 => k_asm); (case zqk5 => k_asm); (case zqk6 => k_mem); (case zqk7 => exact codeRec_news (by k_asm) (by k_mem) (by assumption) (by assumption)); (case zqk8 => ktr_room); (case zqk9 => exact rfl); (case zqc5 => decide); (case zqkB => exact locs rfl); (case zqc2 => exact rfl); (case zqc3 => exact rfl); (case zqc4 => exact rfl); k_whole; intro g' L' h' FG' F' N' B' X' T'; (try dsimp only); (try k_lift B'); (try k_fold))
  k_with "compareOp NotIn str str" => (k_here; first | refine notin_c _ (in_ws _) ?_ | refine notin_c _ (in_bt _) ?_ | refine notin_c _ (in_nr _) ?_ | refine notin_c _ (in_bad _) ?_ | refine notin_c _ (in_punct _) ?_)
  k_with "ite" => (first | (with_reducible refine ite_ff9 ?_) | (with_reducible refine ite_tt9 ?_))
  k_with "call builtin:str.join" => (k_here; k_dflt (refine' join_c ?zqN ?zqm ?zqs ?zqz ?_; (case zqN => k_asm); (case zqm => k_mem); (case zqs => assumption); (case zqz => assumption)); intro tj' tkj')
  exact True.intro
theorem amp_notin {prog : Program} {w : World} {A : Around} {E : Value → Shared → Prop} {s : Shared} {x : Str} {t u : Tok} {Q : Value → Shared → Prop} (hx : Alpha x) (h : Q (.bool true) s) :
    wpAny (model prog w) A (compareOp .NotIn (.str (Str.ofString "&") u) (.str x t)) Q E s := by
  rw [show Str.ofString "&" = ⟨#[38]⟩ from by decide]
  refine notin_c False ⟨fun hm => ?_, fun h => nomatch h⟩ (by simpa using h)
  obtain ⟨i, hi, e⟩ := List.getElem_of_mem hm
  have hi' : i < x.cps.size := by simpa using hi
  have := hx i hi'
  rw [show x.cps[i] = 38 from by simpa using e] at this
  unfold alpha at this
  exact absurd this (by decide)
theorem words_s_esc_2 : True := by
  k_with "compareOp NotIn str str" => (k_here; refine amp_notin (by assumption) ?_)
  exact True.intro
set_option maxHeartbeats 8000000 in
theorem unescape_spec {w : World} {p : Program} {loose : List Str} {mean : ExcName → Option Value} {mg mb : Str → Option Value} {x : Str} {st : Tok} (hal : Alpha x) :
   SpecOf w p loose mean mg mb 64 1 [.str x st] (fun tl r => tl = [] ∧ r = .str x st) := by
  unfold SpecOf
  k_fill
  intro dp un gd cn cs a ccd cl outer A₀ base h₀ L m news s Q E B F X N T hk hd hu hret
  refine wpAny_call ?_
  k_dflt walk_at "MINE enter"
  k_steps
  rename News h₀ L _ _ => N9
  exact hret _ [] _ _ (by assumption) N9 (fun _ _ _ h => nomatch h) ⟨rfl, rfl⟩
set_option maxHeartbeats 8000000 in
theorem escape_spec {w : World} {p : Program} {loose : List Str} {mean : ExcName → Option Value} {mg mb : Str → Option Value} {x : Str} {st : Tok}
   (hsz : x.cps.size < 100) (hal : Alpha x) (hn : ∀ i (h : i < x.cps.size), x.cps[i] ≠ 10) :
   SpecOf w p loose mean mg mb 52 3 [.str x st] (fun tl r => tl = [] ∧ ∃ t, r = .str ⟨(x.cps.toList.flatMap pctc).toArray⟩ t) := by
  unfold SpecOf
  k_fill
  intro dp un gd cn cs a ccd cl outer A₀ base h₀ L m news s Q E B F X N T hk hd hu hret
  refine wpAny_call ?_
  k_dflt walk_at "MINE enter"
  k_steps
  refine unstop ?_
  k_dflt (refine' SpecOf.use (unescape_spec hal) ?B ?F ?X ?N ?T ?hk ?hd ?hu ?_; walk_at "MINE room")
  rintro r9 tl9 h9 tk9 F9 N9 l9 ⟨rfl, rfl⟩
  simp only [List.nil_append] at N9
  try k_fold
  k_steps
  refine unstop ?_
  k_dflt (refine' SpecK.use (quote_spec hsz hal hn) ?B ?F ?X ?N ?T ?hk ?hd ?hu ?_; walk_at "MINE room")
  rintro r10 tl10 h10 tk10 F10 N10 l10 ⟨rfl, t10, rfl⟩
  simp only [List.nil_append] at N10
  try k_fold
  k_steps
  rename News h₀ L _ _ => N9
  exact hret _ [] _ _ (by assumption) N9 (fun _ _ _ h => nomatch h) ⟨rfl, _, rfl⟩

theorem words_pure2_1 : True := by
  k_with_none
  w_top off
  k_with "MINE ar" => (with_reducible first | assumption | decide | ((show @LT.lt Nat _ _ _); first | exact ar_n1 (by assumption) | exact ar_n2 (by assumption) | exact ar_n6 (by assumption) | exact ar_n12 (by assumption) | exact ar_n13 (by assumption) | exact ar_k1 (by assumption) | exact ar_k2 (by assumption) | exact ar_k3 (by assumption) | exact ar_k4 (by assumption) | exact ar_k8 (by assumption) | exact ar_m1 (by assumption) | exact ar_m2 (by assumption) | exact ar_m3 (by assumption) | exact ar_m4 (by assumption) | exact ar_m5 (by assumption) | exact ar_e4 (by assumption) | exact ar_e5 (by assumption) | exact ar_r1 (by assumption) | exact Nat.lt_succ_self _ | exact ar_r2 (by assumption) (by decide) | exact ar_r3 (by assumption) (by decide) | exact ar_n7 (by assumption) (by assumption) | exact ar_n8 (by assumption) (by assumption) | exact ar_n16 (by assumption) (by assumption) | exact ar_n20 (by assumption) (by assumption) | exact ar_n21 (by assumption) (by assumption) | exact ar_n23 (by assumption) (by assumption) | exact ar_n24 (by assumption) (by assumption) | exact ar_e17 (by assumption) (by assumption) | exact ar_e19 (by assumption) (by assumption) | exact ar_n14 (by assumption) (by assumption) (by assumption) | exact ar_n26 (by assumption) (by assumption) (by assumption) | exact ar_n27 (by assumption) (by assumption) (by assumption) | exact ar_n15 (by assumption) (by assumption) (by assumption) (by assumption) | exact ar_n22 (by assumption) (by assumption) (by assumption) (by assumption)) | ((show @LE.le Nat _ _ _); first | exact Nat.le_refl _ | exact Nat.le_add_right _ _ | exact ar_n3 (by assumption) | exact ar_n4 (by assumption) | exact ar_n5 (by assumption) | exact ar_k7 (by assumption) | exact ar_k10 (by assumption) | exact ar_k13 (by assumption) | exact ar_e1 (by assumption) | exact ar_e2 (by assumption) | exact ar_e3 (by assumption) | exact ar_e6 (by assumption) | exact ar_e7 (by assumption) | exact ar_e8 (by assumption) | exact ar_s1 (by assumption) | exact ar_w2 (by assumption) | exact ar_n25 (by assumption) | exact ar_n9 (by assumption) (by assumption) | exact ar_n17 (by assumption) (by assumption) | exact ar_n28 (by assumption) (by assumption) | exact ar_e9 (by assumption) (by assumption) | exact ar_e10 (by assumption) (by assumption) | exact ar_e18 (by assumption) (by assumption) | exact ar_s3 (by assumption) (by assumption) | exact ar_n10 (by assumption) (by assumption) (by assumption) | exact ar_n11 (by assumption) (by assumption) (by assumption)) | ((show @LT.lt Int _ _ _); first | exact ar_k9 (by assumption) | exact ar_n18 (by assumption) | exact ar_n19 (by assumption) (by assumption)) | ((show @LE.le Int _ _ _); first | exact Int.natCast_nonneg _) | ((show @Eq Nat _ _); first | exact ar_e11 (by assumption) | exact ar_e12 (by assumption) | exact ar_e13 (by assumption) | exact ar_e15 (by assumption) | exact ar_s2 (by assumption) | exact ar_s4 (by assumption) | exact ar_w6 (by assumption) (by assumption) | exact ar_nn (by assumption)) | ((show @Eq Int _ _); first | exact ar_i5 | exact ar_i6 | exact ar_i7 | exact ar_i8 (by assumption)) | ((show ¬ _); first | exact ar_k5 (by assumption) | exact ar_k6 (by assumption) | exact ar_k11 (by assumption) | exact ar_k12 (by assumption) | exact ar_k14 (by assumption) | exact ar_e14 (by assumption) | exact ar_e16 (by assumption) | exact ar_e20 (by assumption) | exact ar_q1 (by assumption) | exact ar_q2 (by assumption) | exact ar_q3 (by assumption) | exact ar_q4 (by assumption) | exact ar_q5 (by assumption) | exact ar_w7 (by assumption) | exact ar_w8 (by assumption) | exact ar_w14 (by assumption) | exact ar_w16 (by assumption) | exact ar_w18 (by assumption) | exact ar_w19 (by assumption) | exact ar_w20 (by assumption) | exact ar_o3 (by assumption) | exact ar_o4 (by assumption) | exact ar_d (by assumption) (by decide) | exact ar_l1 (by assumption) (by assumption) | exact ar_l2 (by assumption) (by assumption) | exact ar_l3 (by assumption) (by assumption) | exact ar_w17 (by assumption) (by assumption) | exact ar_lv (by assumption) (by assumption) (by assumption) | exact ar_nn2 (by assumption)) | ((show _ ∧ _); first | exact ar_w1 (by assumption) | exact ar_w10 (by assumption) | exact ar_w12 (by assumption) | exact ar_w13 (by assumption) | exact ar_o2 (by assumption) | exact ar_w4 (by assumption) (by assumption) | exact ar_i4 (by assumption) (by assumption)) | ((show _ ∨ _); first | exact ar_o1 (by assumption) | exact ar_w3 (by assumption) (by assumption) | exact ar_w5 (by assumption) (by assumption) | exact ar_w9 (by assumption) (by assumption) | exact ar_w11 (by assumption) (by assumption)) | ((show _ ↔ _); first | exact ar_z3 | exact ar_z4 | exact ar_z5) | ((show False); first | exact (ar_f1 (by assumption) (by assumption) (by assumption)).elim | exact (ar_f2 (by assumption) (by assumption) (by assumption)).elim | exact (ar_c1 (by assumption) (by assumption)).elim | exact (ar_c2 (by assumption) (by assumption)).elim | exact (ar_c3 (by assumption) (by assumption)).elim | exact (ar_c4 (by assumption) (by assumption)).elim | exact (ar_c5 (by assumption) (by assumption)).elim | exact (ar_c7 (by assumption) (by assumption)).elim | exact (ar_c8 (by assumption) (by assumption)).elim | exact (ar_c9 (by assumption) (by assumption)).elim | exact (ar_c10 (by assumption) (by assumption)).elim | exact (ar_c11 (by assumption) (by assumption)).elim | exact (ar_c12 (by assumption) (by assumption)).elim | exact (ar_c13 (by assumption) (by assumption)).elim | exact (ar_f3 (by assumption) (by assumption)).elim | exact (ar_f4 (by assumption) (by assumption)).elim | exact (ar_f5 (by assumption) (by assumption)).elim | exact (ar_f6 (by assumption) (by assumption)).elim | exact (ar_f7 (by assumption) (by assumption)).elim | exact (ar_f8 (by assumption) (by assumption)).elim | exact (ar_f9 (by assumption) (by assumption)).elim | exact (ar_f10 (by assumption) (by assumption)).elim) | ((show @Eq _ _ _); first | exact (ar_f1 (by assumption) (by assumption) (by assumption)).elim | exact (ar_f2 (by assumption) (by assumption) (by assumption)).elim | exact (ar_c1 (by assumption) (by assumption)).elim | exact (ar_c2 (by assumption) (by assumption)).elim | exact (ar_c3 (by assumption) (by assumption)).elim | exact (ar_c4 (by assumption) (by assumption)).elim | exact (ar_c5 (by assumption) (by assumption)).elim | exact (ar_c7 (by assumption) (by assumption)).elim | exact (ar_c8 (by assumption) (by assumption)).elim | exact (ar_c9 (by assumption) (by assumption)).elim | exact (ar_c10 (by assumption) (by assumption)).elim | exact (ar_c11 (by assumption) (by assumption)).elim | exact (ar_c12 (by assumption) (by assumption)).elim | exact (ar_c13 (by assumption) (by assumption)).elim | exact (ar_f3 (by assumption) (by assumption)).elim | exact (ar_f4 (by assumption) (by assumption)).elim | exact (ar_f5 (by assumption) (by assumption)).elim | exact (ar_f6 (by assumption) (by assumption)).elim | exact (ar_f7 (by assumption) (by assumption)).elim | exact (ar_f8 (by assumption) (by assumption)).elim | exact (ar_f9 (by assumption) (by assumption)).elim | exact (ar_f10 (by assumption) (by assumption)).elim) | (intro _; first | exact (ar_f1 (by assumption) (by assumption) (by assumption)).elim | exact (ar_f2 (by assumption) (by assumption) (by assumption)).elim | exact (ar_c1 (by assumption) (by assumption)).elim | exact (ar_c2 (by assumption) (by assumption)).elim | exact (ar_c3 (by assumption) (by assumption)).elim | exact (ar_c4 (by assumption) (by assumption)).elim | exact (ar_c5 (by assumption) (by assumption)).elim | exact (ar_c7 (by assumption) (by assumption)).elim | exact (ar_c8 (by assumption) (by assumption)).elim | exact (ar_c9 (by assumption) (by assumption)).elim | exact (ar_c10 (by assumption) (by assumption)).elim | exact (ar_c11 (by assumption) (by assumption)).elim | exact (ar_c12 (by assumption) (by assumption)).elim | exact (ar_c13 (by assumption) (by assumption)).elim | exact (ar_f3 (by assumption) (by assumption)).elim | exact (ar_f4 (by assumption) (by assumption)).elim | exact (ar_f5 (by assumption) (by assumption)).elim | exact (ar_f6 (by assumption) (by assumption)).elim | exact (ar_f7 (by assumption) (by assumption)).elim | exact (ar_f8 (by assumption) (by assumption)).elim | exact (ar_f9 (by assumption) (by assumption)).elim | exact (ar_f10 (by assumption) (by assumption)).elim) | exact ar_i1 (by assumption) | exact ar_i2 (by assumption) | exact ar_i3 (by assumption) (by decide))
  k_with "MINE enter" => (refine' code_def ?zqk1 ?zqk2 ?zqk3 ?zqk4 ?zqk5 ?zqkA ?zqkF ?zqkK ?zqk6 ?zqk7 ?zqk8 ?zqk9 ?zqkB ?_ ?zqc2 ?zqc3 ?zqc4 ?zqc5; (case zqkA => exact rfl); (case zqkF => exact rfl); (case zqkK => assumption); (case zqk1 => k_asm); (case zqk2 => k_asm); (case zqk3 => k_asm); (case zqk4 => k_asm); (case zqk5 => k_asm); (case zqk6 => k_is); (case zqk7 => k_is); (case zqk8 => ktr_room); (case zqk9 => first | exact BindsTo.of_eq rfl | exact binds_K (by k_in) rfl (by k_is) rfl rfl rfl); (case zqc5 => decide); (case zqkB => exact locs rfl); (case zqc2 => exact rfl); (case zqc3 => exact rfl); (case zqc4 => exact rfl); k_whole; intro g' L' h' FG' F' N' B' X' T'; (try dsimp only); (try k_lift B'); (try k_fold))
  k_with "exec While BoolOp cons nil" => (refine stop ?_)
  k_with "exec While Compare cons nil" => (refine stop ?_)
  k_with "MINE same" => (intro z h2 h3; simp only [List.forall_mem_cons, List.not_mem_nil, false_implies, implies_true, and_true, ne_eq] at h2; (try simp only [List.contains_cons, List.contains_nil, Bool.or_false, Bool.or_eq_false_iff, beq_eq_false_iff_ne, ne_eq] at h3); simp [kstB, h2, h3])
  k_with "KswPost" => (refine stop ?_)
  k_with "subscriptTail Name Name str int" => (k_here; (with_unfolding_all refine' item_a ?zqk0 ?zqk1 ?zqk2 ?zqk3 ?_; (case zqk0 => assumption); (case zqk1 => first | rfl | exact Int.natCast_add _ _ | omega); (case zqk2 => omega); (case zqk3 => omega)); intro hItem')
  k_with "subscriptTail Name BinOp str int" => (k_here; (with_unfolding_all refine' item_a (n := _ + 1) ?zqk0 ?zqk1 ?zqk2 ?zqk3 ?_; (case zqk0 => assumption); (case zqk1 => rfl); (case zqk2 => omega); (case zqk3 => omega)); intro hItem')
  k_with "compareOp Eq str str" => (k_here; first | refine eq_c lit_lt ?_ | refine eq_c lit_gt ?_ | refine eq_c lit_bs ?_ | refine eq_c lit_lp ?_ | refine eq_c lit_rp ?_ | refine eq_c lit_nl ?_ | refine eq_c lit_cr ?_ | refine eq_c lit_del ?_ | refine eq_c lit_nul ?_ | refine eq_c lit_blank ?_)
  k_with "compareOp In str str" => (k_here; first | refine in_c _ (in_ws _) ?_ | refine in_c _ (in_bt _) ?_ | refine in_c _ (in_nr _) ?_ | refine in_c _ (in_bad _) ?_ | refine in_c _ (in_punct _) ?_)
  k_with "call builtin:len" => (k_here; (with_reducible show wpAny _ _ (call (Value.builtin "len") [Value.str _ _]) _ _ _); refine len_c (by omega) ?_)
  k_with "call ref" => (k_here; (with_reducible show wpAny _ _ (call (Value.ref _) _ _) _ _ _); refine stop ?_)
  k_with "MINE room" => ((case B => k_asm); (case F => k_asm); (case X => k_asm); (case N => k_asm); (case T => k_asm); (case hk => first | exact rfl | assumption); (case hd => ktr_room); (case hu => ktr_units))
  k_with "getMethod ref" => (k_here; (with_reducible show wpAny _ _ (getMethod _ (Str.ofString "sub") _) _ _ _); k_dflt (refine' getM ?zqF ?zqX ?zql slot_sub type_sub ?_; (case zqF => k_asm); (case zqX => k_asm); (case zql => k_is)))
  k_with "getMethod ref" => (k_here; (with_reducible show wpAny _ _ (getMethod _ (Str.ofString "match") _) _ _ _); k_dflt (refine' getM ?zqF ?zqX ?zql slot_match type_match ?_; (case zqF => k_asm); (case zqX => k_asm); (case zql => k_is)))
  k_with "callWith ref" => (k_here; k_dflt (refine' callWith_K ?zqk1 ?zqk2 ?_; (case zqk1 => k_asm); (case zqk2 => k_is); k_whole))
  k_with "call builtin:list.append" => (k_here; k_dflt (refine' append_T ?zqF ?zqN ?zql ?zqz ?_; (case zqF => k_asm); (case zqN => k_asm); (case zql => assumption); (case zqz => assumption)); intro h' F' N'; (try k_sweep))
  k_with "getMethod ref" => (k_here; (with_reducible show wpAny _ _ (getMethod _ (Str.ofString "group") _) _ _ _); k_dflt (refine' getMm ?zqN ?zqm ?_; (case zqN => k_asm); (case zqm => k_mem)))
  k_with "call builtin:re.Match.group" => (k_here; k_dflt (refine' group_E ?zqz ?zqN ?zqm ?zqn ?_; (case zqN => k_asm); (case zqm => k_mem); (case zqn => k_mem); (case zqz => omega)); intro tk')
  k_with "truthy str" => (k_here; refine truthy_c (by simp [Array.size_extract]; omega) ?_)
  k_with "binaryOp Add str str" => (k_here; refine add_c (by simp [Array.size_extract, lit_nil]; omega) ?_; intro ta' tka')
  k_with "MINE lam" => (refine' kla_code ?zqk1 ?zqk2 ?zqk3 ?zqk4 ?zqk5 ?zqkA ?zqkF ?zqkK ?zqk6 ?zqk7 ?zqk8 ?zqk9 ?zqkB ?_ ?zqc2 ?zqc3 ?zqc4 ?zqc5; (case zqkA => exact rfl); (case zqkF => exact rfl); (case zqkK => exact rfl); (case zqk1 => k_asm); (case zqk2 => k_asm); (case zqk3 => k_asm); (case zqk4 => k_asm); (case zqk5 => k_asm); (case zqk6 => k_mem); (case zqk7 => exact codeRec_news (by k_asm) (by k_mem) (by assumption) (by assumption)); (case zqk8 => ktr_room); (case zqk9 => exact rfl); (case zqc5 => decide); (case zqkB => exact locs rfl); (case zqc2 => exact rfl); (case zqc3 => exact rfl); (case zqc4 => exact rfl); k_whole; intro g' L' h' FG' F' N' B' X' T'; (try dsimp only); (try k_lift B'); (try k_fold))
  k_with "compareOp NotIn str str" => (k_here; first | refine notin_c _ (in_ws _) ?_ | refine notin_c _ (in_bt _) ?_ | refine notin_c _ (in_nr _) ?_ | refine notin_c _ (in_bad _) ?_ | refine notin_c _ (in_punct _) ?_)
  k_with "ite" => (first | (with_reducible refine ite_ff9 ?_) | (with_reducible refine ite_tt9 ?_))
  k_with "call builtin:str.join" => (k_here; k_dflt (refine' join_c ?zqN ?zqm ?zqs ?zqz ?_; (case zqN => k_asm); (case zqm => k_mem); (case zqs => assumption); (case zqz => assumption)); intro tj' tkj')
  exact True.intro
theorem At.drops {src : Str} : ∀ {us : List U} {pos : Nat}, At src pos us → ∃ n, At src n (dropWs us) := by
  intro us
  induction us with
  | nil => intro pos h; exact ⟨pos, h⟩
  | cons u r ih =>
    intro pos h
    rcases h.split with ⟨e, _⟩ | ⟨hk, r', e, hr, _⟩ | ⟨hk, r', _, _, e, hr⟩
    · cases e
    · cases e
      unfold dropWs
      split
      · exact ih hr
      · exact ⟨pos, h⟩
    · cases e
      exact ⟨pos, h⟩
theorem At.next {src : Str} {u : U} {r : List U} {pos : Nat} (h : At src pos (u :: r)) : ∃ n, At src n r := by
  rcases h.split with ⟨e, _⟩ | ⟨hk, r', e, hr, _⟩ | ⟨hk, r', _, _, e, hr⟩
  · cases e
  · cases e; exact ⟨_, hr⟩
  · cases e; exact ⟨_, hr⟩
theorem nls_append (a b : List U) : nls (a ++ b) = nls a + nls b := by
  induction a with
  | nil => simp [nls]
  | cons u a ih => rw [List.cons_append, nls_cons, nls_cons, ih]; omega
theorem angle_split : ∀ (us g r : List U), angle us = some (g, r) → (∃ q, q.is 62 = true ∧ us = g ++ q :: r) ∧ ∀ u ∈ g, u.is 10 = false := by
  intro us
  induction us with
  | nil => intro g r h; cases h
  | cons u us ih =>
    intro g r h
    unfold angle at h
    split at h
    · rename_i hu
      cases h
      exact ⟨⟨u, hu, rfl⟩, fun _ h => nomatch h⟩
    · split at h
      · cases h
      · rename_i hu
        cases ha : angle us with
        | none => rw [ha] at h; cases h
        | some q =>
          rw [ha] at h
          cases h
          obtain ⟨⟨q', hq, e⟩, hn⟩ := ih q.1 q.2 ha
          refine ⟨⟨q', hq, by rw [List.cons_append, ← e]⟩, fun v hv => ?_⟩
          rcases List.mem_cons.mp hv with rfl | hv
          · simp at hu; exact hu.2
          · exact hn v hv
theorem href_split : ∀ (us g r : List U) (d : Nat), href d us = some (g, r) → us = g ++ r ∧ ∀ u ∈ g, u.is 10 = false := by
  intro us
  induction us with
  | nil =>
    intro g r d h
    unfold href at h
    split at h
    · cases h; exact ⟨rfl, fun _ h => nomatch h⟩
    · cases h
  | cons u us ih =>
    intro g r d h
    rw [href_cons] at h
    have key : ∀ d', (href d' us).map (fun p => (u :: p.1, p.2)) = some (g, r) → u.ws = false → u :: us = g ++ r ∧ ∀ v ∈ g, v.is 10 = false := by
      intro d' h hw
      cases ha : href d' us with
      | none => rw [ha] at h; cases h
      | some q =>
        rw [ha] at h
        cases h
        obtain ⟨e, hn⟩ := ih q.1 q.2 d' ha
        refine ⟨by rw [List.cons_append, ← e], fun v hv => ?_⟩
        rcases List.mem_cons.mp hv with rfl | hv
        · cases hq : v.is 10 with
          | false => rfl
          | true => simp [U.is, U.ws] at hq hw; rw [hq.1, hq.2] at hw; simp at hw
        · exact hn v hv
    by_cases hw : u.ws = true
    · rw [if_pos hw] at h
      split at h
      · cases h; exact ⟨rfl, fun _ h => nomatch h⟩
      · cases h
    · have hw' : u.ws = false := by simpa using hw
      rw [if_neg hw] at h
      split at h
      · cases d with
        | zero => cases h; exact ⟨rfl, fun _ h => nomatch h⟩
        | succ d => exact key d h hw'
      · split at h
        · exact key _ h hw'
        · exact key _ h hw'
/-- what stands about the destination -/
theorem dest_split {src : Str} {us g r : List U} {pos : Nat} (hA : At src pos us) (h : dest (dropWs us) = some (g, r)) :
    ∃ n b, At src n (g ++ b) ∧ nls r ≤ nls us ∧ ∀ u ∈ g, u.is 10 = false := by
  have hnl := nls_dropWs us
  obtain ⟨n, hn⟩ := hA.drops
  cases hd : dropWs us with
  | nil => rw [hd] at h; cases h
  | cons u r0 =>
    rw [hd] at h hn hnl
    unfold dest at h
    dsimp only at h
    split at h
    · obtain ⟨⟨q, _, e⟩, hg⟩ := angle_split _ _ _ h
      obtain ⟨k, hk⟩ := hn.next
      refine ⟨k, q :: r, by rw [← e]; exact hk, ?_, hg⟩
      rw [nls_cons, e, nls_append, nls_cons] at hnl
      omega
    · obtain ⟨e, hg⟩ := href_split _ _ _ _ h
      refine ⟨n, r, by rw [← e]; exact hn, ?_, hg⟩
      rw [e, nls_append] at hnl
      omega
theorem At.ok {src : Str} {us : List U} {pos : Nat} (hA : At src pos us) : ∀ u ∈ us, u.ok := by
  intro u hu
  rw [← hA.tok] at hu
  exact tok_ok _ u hu
/-- the plain signs of a part without a newline -/
theorem plain_text {src : Str} (hx : Alpha src) {n : Nat} {a b : List U} (h : At src n (a ++ b)) (hg : ∀ u ∈ a, u.is 10 = false) :
    Alpha ⟨(plain a).toArray⟩ ∧ ∀ i (hi : i < (⟨(plain a).toArray⟩ : Str).cps.size), (⟨(plain a).toArray⟩ : Str).cps[i] ≠ 10 := by
  have key : ∀ u ∈ a, alpha u.c ∧ u.c ≠ 10 := by
    intro u hu
    have hok := h.ok u (List.mem_append_left _ hu)
    have hal := h.alphaPart hx
    constructor
    · have hm : u.c ∈ Mine.flat a := by
        unfold Mine.flat
        refine List.mem_flatMap.mpr ⟨u, hu, ?_⟩
        unfold U.chars
        split <;> simp
      obtain ⟨i, hi, e⟩ := List.getElem_of_mem hm
      have := hal i (by simpa using hi)
      rw [← e]
      simpa using this
    · intro e
      have h1 := hg u hu
      simp [U.is, e] at h1
      have := hok h1
      rw [e] at this
      exact absurd this (by decide)
  constructor
  · intro i hi
    have hm : (⟨(plain a).toArray⟩ : Str).cps[i] ∈ plain a := by simp
    obtain ⟨u, hu, e⟩ := List.mem_map.mp hm
    rw [← e]
    exact (key u hu).1
  · intro i hi
    have hm : (⟨(plain a).toArray⟩ : Str).cps[i] ∈ plain a := by simp
    obtain ⟨u, hu, e⟩ := List.mem_map.mp hm
    rw [← e]
    exact (key u hu).2
theorem plain_len (a : List U) : (plain a).length ≤ (flat a).length := by
  induction a with
  | nil => simp [plain, flat]
  | cons u a ih =>
    have : 1 ≤ u.chars.length := by unfold U.chars; split <;> simp
    simp [plain, flat] at ih ⊢
    omega
theorem dropWs_len : ∀ r : List U, (dropWs r).length ≤ r.length
  | [] => Nat.le_refl _
  | u :: r => by
    have := dropWs_len r
    cases h : u.ws with
    | true => rw [dropWs_cons_ws h, List.length_cons]; omega
    | false => rw [dropWs_cons_no h]; exact Nat.le_refl _
theorem behind_eq (r : List U) : behind r = match titleAt r with | some (t, r3) => ending (dropWs r3) t | none => ending (dropWs r) [] := by
  cases r with
  | nil => rfl
  | cons u r1 =>
    cases hw : u.ws with
    | false =>
      rw [titleAt_not hw]
      unfold behind
      rw [dropWs_cons_no hw]
      dsimp only
      rw [if_neg (by omega)]
    | true =>
      have hl : (dropWs (u :: r1)).length < (u :: r1).length := by
        rw [dropWs_cons_ws hw, List.length_cons]
        have := dropWs_len r1
        omega
      cases hd : dropWs (u :: r1) with
      | nil =>
        rw [titleAt_nil hd]
        unfold behind
        rw [hd]
        rfl
      | cons o r2 =>
        rw [titleAt_cons hd ⟨u, r1, rfl, hw⟩]
        unfold behind
        rw [hd] at hl ⊢
        dsimp only
        by_cases ho : isOp o = true
        · rw [if_pos ⟨hl, ho⟩, if_pos ho]
          cases ht : title o.c r2 with
          | none =>
            dsimp only
            show none = if o.is 41 = true then _ else none
            rw [if_neg]
            intro h
            simp [isOp, U.is] at ho h
            omega
          | some q => rfl
        · rw [if_neg (fun h => ho h.2), if_neg ho]

theorem words_use2_1 : True := by
  k_with_none
  w_top off
  k_with "MINE ar" => (with_reducible first | assumption | decide | ((show @LT.lt Nat _ _ _); first | exact ar_n1 (by assumption) | exact ar_n2 (by assumption) | exact ar_n6 (by assumption) | exact ar_n12 (by assumption) | exact ar_n13 (by assumption) | exact ar_k1 (by assumption) | exact ar_k2 (by assumption) | exact ar_k3 (by assumption) | exact ar_k4 (by assumption) | exact ar_k8 (by assumption) | exact ar_m1 (by assumption) | exact ar_m2 (by assumption) | exact ar_m3 (by assumption) | exact ar_m4 (by assumption) | exact ar_m5 (by assumption) | exact ar_e4 (by assumption) | exact ar_e5 (by assumption) | exact ar_r1 (by assumption) | exact Nat.lt_succ_self _ | exact ar_r2 (by assumption) (by decide) | exact ar_r3 (by assumption) (by decide) | exact ar_n7 (by assumption) (by assumption) | exact ar_n8 (by assumption) (by assumption) | exact ar_n16 (by assumption) (by assumption) | exact ar_n20 (by assumption) (by assumption) | exact ar_n21 (by assumption) (by assumption) | exact ar_n23 (by assumption) (by assumption) | exact ar_n24 (by assumption) (by assumption) | exact ar_e17 (by assumption) (by assumption) | exact ar_e19 (by assumption) (by assumption) | exact ar_n14 (by assumption) (by assumption) (by assumption) | exact ar_n26 (by assumption) (by assumption) (by assumption) | exact ar_n27 (by assumption) (by assumption) (by assumption) | exact ar_n15 (by assumption) (by assumption) (by assumption) (by assumption) | exact ar_n22 (by assumption) (by assumption) (by assumption) (by assumption)) | ((show @LE.le Nat _ _ _); first | exact Nat.le_refl _ | exact Nat.le_add_right _ _ | exact ar_n3 (by assumption) | exact ar_n4 (by assumption) | exact ar_n5 (by assumption) | exact ar_k7 (by assumption) | exact ar_k10 (by assumption) | exact ar_k13 (by assumption) | exact ar_e1 (by assumption) | exact ar_e2 (by assumption) | exact ar_e3 (by assumption) | exact ar_e6 (by assumption) | exact ar_e7 (by assumption) | exact ar_e8 (by assumption) | exact ar_s1 (by assumption) | exact ar_w2 (by assumption) | exact ar_n25 (by assumption) | exact ar_n9 (by assumption) (by assumption) | exact ar_n17 (by assumption) (by assumption) | exact ar_n28 (by assumption) (by assumption) | exact ar_e9 (by assumption) (by assumption) | exact ar_e10 (by assumption) (by assumption) | exact ar_e18 (by assumption) (by assumption) | exact ar_s3 (by assumption) (by assumption) | exact ar_n10 (by assumption) (by assumption) (by assumption) | exact ar_n11 (by assumption) (by assumption) (by assumption)) | ((show @LT.lt Int _ _ _); first | exact ar_k9 (by assumption) | exact ar_n18 (by assumption) | exact ar_n19 (by assumption) (by assumption)) | ((show @LE.le Int _ _ _); first | exact Int.natCast_nonneg _) | ((show @Eq Nat _ _); first | exact ar_e11 (by assumption) | exact ar_e12 (by assumption) | exact ar_e13 (by assumption) | exact ar_e15 (by assumption) | exact ar_s2 (by assumption) | exact ar_s4 (by assumption) | exact ar_w6 (by assumption) (by assumption) | exact ar_nn (by assumption)) | ((show @Eq Int _ _); first | exact ar_i5 | exact ar_i6 | exact ar_i7 | exact ar_i8 (by assumption)) | ((show ¬ _); first | exact ar_k5 (by assumption) | exact ar_k6 (by assumption) | exact ar_k11 (by assumption) | exact ar_k12 (by assumption) | exact ar_k14 (by assumption) | exact ar_e14 (by assumption) | exact ar_e16 (by assumption) | exact ar_e20 (by assumption) | exact ar_q1 (by assumption) | exact ar_q2 (by assumption) | exact ar_q3 (by assumption) | exact ar_q4 (by assumption) | exact ar_q5 (by assumption) | exact ar_w7 (by assumption) | exact ar_w8 (by assumption) | exact ar_w14 (by assumption) | exact ar_w16 (by assumption) | exact ar_w18 (by assumption) | exact ar_w19 (by assumption) | exact ar_w20 (by assumption) | exact ar_o3 (by assumption) | exact ar_o4 (by assumption) | exact ar_d (by assumption) (by decide) | exact ar_l1 (by assumption) (by assumption) | exact ar_l2 (by assumption) (by assumption) | exact ar_l3 (by assumption) (by assumption) | exact ar_w17 (by assumption) (by assumption) | exact ar_lv (by assumption) (by assumption) (by assumption) | exact ar_nn2 (by assumption)) | ((show _ ∧ _); first | exact ar_w1 (by assumption) | exact ar_w10 (by assumption) | exact ar_w12 (by assumption) | exact ar_w13 (by assumption) | exact ar_o2 (by assumption) | exact ar_w4 (by assumption) (by assumption) | exact ar_i4 (by assumption) (by assumption)) | ((show _ ∨ _); first | exact ar_o1 (by assumption) | exact ar_w3 (by assumption) (by assumption) | exact ar_w5 (by assumption) (by assumption) | exact ar_w9 (by assumption) (by assumption) | exact ar_w11 (by assumption) (by assumption)) | ((show _ ↔ _); first | exact ar_z3 | exact ar_z4 | exact ar_z5) | ((show False); first | exact (ar_f1 (by assumption) (by assumption) (by assumption)).elim | exact (ar_f2 (by assumption) (by assumption) (by assumption)).elim | exact (ar_c1 (by assumption) (by assumption)).elim | exact (ar_c2 (by assumption) (by assumption)).elim | exact (ar_c3 (by assumption) (by assumption)).elim | exact (ar_c4 (by assumption) (by assumption)).elim | exact (ar_c5 (by assumption) (by assumption)).elim | exact (ar_c7 (by assumption) (by assumption)).elim | exact (ar_c8 (by assumption) (by assumption)).elim | exact (ar_c9 (by assumption) (by assumption)).elim | exact (ar_c10 (by assumption) (by assumption)).elim | exact (ar_c11 (by assumption) (by assumption)).elim | exact (ar_c12 (by assumption) (by assumption)).elim | exact (ar_c13 (by assumption) (by assumption)).elim | exact (ar_f3 (by assumption) (by assumption)).elim | exact (ar_f4 (by assumption) (by assumption)).elim | exact (ar_f5 (by assumption) (by assumption)).elim | exact (ar_f6 (by assumption) (by assumption)).elim | exact (ar_f7 (by assumption) (by assumption)).elim | exact (ar_f8 (by assumption) (by assumption)).elim | exact (ar_f9 (by assumption) (by assumption)).elim | exact (ar_f10 (by assumption) (by assumption)).elim) | ((show @Eq _ _ _); first | exact (ar_f1 (by assumption) (by assumption) (by assumption)).elim | exact (ar_f2 (by assumption) (by assumption) (by assumption)).elim | exact (ar_c1 (by assumption) (by assumption)).elim | exact (ar_c2 (by assumption) (by assumption)).elim | exact (ar_c3 (by assumption) (by assumption)).elim | exact (ar_c4 (by assumption) (by assumption)).elim | exact (ar_c5 (by assumption) (by assumption)).elim | exact (ar_c7 (by assumption) (by assumption)).elim | exact (ar_c8 (by assumption) (by assumption)).elim | exact (ar_c9 (by assumption) (by assumption)).elim | exact (ar_c10 (by assumption) (by assumption)).elim | exact (ar_c11 (by assumption) (by assumption)).elim | exact (ar_c12 (by assumption) (by assumption)).elim | exact (ar_c13 (by assumption) (by assumption)).elim | exact (ar_f3 (by assumption) (by assumption)).elim | exact (ar_f4 (by assumption) (by assumption)).elim | exact (ar_f5 (by assumption) (by assumption)).elim | exact (ar_f6 (by assumption) (by assumption)).elim | exact (ar_f7 (by assumption) (by assumption)).elim | exact (ar_f8 (by assumption) (by assumption)).elim | exact (ar_f9 (by assumption) (by assumption)).elim | exact (ar_f10 (by assumption) (by assumption)).elim) | (intro _; first | exact (ar_f1 (by assumption) (by assumption) (by assumption)).elim | exact (ar_f2 (by assumption) (by assumption) (by assumption)).elim | exact (ar_c1 (by assumption) (by assumption)).elim | exact (ar_c2 (by assumption) (by assumption)).elim | exact (ar_c3 (by assumption) (by assumption)).elim | exact (ar_c4 (by assumption) (by assumption)).elim | exact (ar_c5 (by assumption) (by assumption)).elim | exact (ar_c7 (by assumption) (by assumption)).elim | exact (ar_c8 (by assumption) (by assumption)).elim | exact (ar_c9 (by assumption) (by assumption)).elim | exact (ar_c10 (by assumption) (by assumption)).elim | exact (ar_c11 (by assumption) (by assumption)).elim | exact (ar_c12 (by assumption) (by assumption)).elim | exact (ar_c13 (by assumption) (by assumption)).elim | exact (ar_f3 (by assumption) (by assumption)).elim | exact (ar_f4 (by assumption) (by assumption)).elim | exact (ar_f5 (by assumption) (by assumption)).elim | exact (ar_f6 (by assumption) (by assumption)).elim | exact (ar_f7 (by assumption) (by assumption)).elim | exact (ar_f8 (by assumption) (by assumption)).elim | exact (ar_f9 (by assumption) (by assumption)).elim | exact (ar_f10 (by assumption) (by assumption)).elim) | exact ar_i1 (by assumption) | exact ar_i2 (by assumption) | exact ar_i3 (by assumption) (by decide))
  k_with "MINE enter" => (refine' code_def ?zqk1 ?zqk2 ?zqk3 ?zqk4 ?zqk5 ?zqkA ?zqkF ?zqkK ?zqk6 ?zqk7 ?zqk8 ?zqk9 ?zqkB ?_ ?zqc2 ?zqc3 ?zqc4 ?zqc5; (case zqkA => exact rfl); (case zqkF => exact rfl); (case zqkK => assumption); (case zqk1 => k_asm); (case zqk2 => k_asm); (case zqk3 => k_asm); (case zqk4 => k_asm); (case zqk5 => k_asm); (case zqk6 => k_is); (case zqk7 => k_is); (case zqk8 => ktr_room); (case zqk9 => first | exact BindsTo.of_eq rfl | exact binds_K (by k_in) rfl (by k_is) rfl rfl rfl); (case zqc5 => decide); (case zqkB => exact locs rfl); (case zqc2 => exact rfl); (case zqc3 => exact rfl); (case zqc4 => exact rfl); k_whole; intro g' L' h' FG' F' N' B' X' T'; (try dsimp only); (try k_lift B'); (try k_fold))
  k_with "exec While BoolOp cons nil" => (refine stop ?_)
  k_with "exec While Compare cons nil" => (refine stop ?_)
  k_with "MINE same" => (intro z h2 h3; simp only [List.forall_mem_cons, List.not_mem_nil, false_implies, implies_true, and_true, ne_eq] at h2; (try simp only [List.contains_cons, List.contains_nil, Bool.or_false, Bool.or_eq_false_iff, beq_eq_false_iff_ne, ne_eq] at h3); simp [kstB, h2, h3])
  k_with "KswPost" => (refine stop ?_)
  k_with "subscriptTail Name Name str int" => (k_here; (with_unfolding_all refine' item_a ?zqk0 ?zqk1 ?zqk2 ?zqk3 ?_; (case zqk0 => assumption); (case zqk1 => first | rfl | exact Int.natCast_add _ _ | omega); (case zqk2 => omega); (case zqk3 => omega)); intro hItem')
  k_with "subscriptTail Name BinOp str int" => (k_here; (with_unfolding_all refine' item_a (n := _ + 1) ?zqk0 ?zqk1 ?zqk2 ?zqk3 ?_; (case zqk0 => assumption); (case zqk1 => rfl); (case zqk2 => omega); (case zqk3 => omega)); intro hItem')
  k_with "compareOp Eq str str" => (k_here; first | refine eq_c lit_lt ?_ | refine eq_c lit_gt ?_ | refine eq_c lit_bs ?_ | refine eq_c lit_lp ?_ | refine eq_c lit_rp ?_ | refine eq_c lit_nl ?_ | refine eq_c lit_cr ?_ | refine eq_c lit_del ?_ | refine eq_c lit_nul ?_ | refine eq_c lit_blank ?_)
  k_with "compareOp In str str" => (k_here; first | refine in_c _ (in_ws _) ?_ | refine in_c _ (in_bt _) ?_ | refine in_c _ (in_nr _) ?_ | refine in_c _ (in_bad _) ?_ | refine in_c _ (in_punct _) ?_)
  k_with "call builtin:len" => (k_here; (with_reducible show wpAny _ _ (call (Value.builtin "len") [Value.str _ _]) _ _ _); refine len_c (by omega) ?_)
  k_with "call ref" => (k_here; (with_reducible show wpAny _ _ (call (Value.ref _) _ _) _ _ _); refine stop ?_)
  k_with "MINE room" => ((case B => k_asm); (case F => k_asm); (case X => k_asm); (case N => k_asm); (case T => k_asm); (case hk => first | exact rfl | assumption); (case hd => ktr_room); (case hu => ktr_units))
  k_with "getMethod ref" => (k_here; (with_reducible show wpAny _ _ (getMethod _ (Str.ofString "sub") _) _ _ _); k_dflt (refine' getM ?zqF ?zqX ?zql slot_sub type_sub ?_; (case zqF => k_asm); (case zqX => k_asm); (case zql => k_is)))
  k_with "getMethod ref" => (k_here; (with_reducible show wpAny _ _ (getMethod _ (Str.ofString "match") _) _ _ _); k_dflt (refine' getM ?zqF ?zqX ?zql slot_match type_match ?_; (case zqF => k_asm); (case zqX => k_asm); (case zql => k_is)))
  k_with "callWith ref" => (k_here; k_dflt (refine' callWith_K ?zqk1 ?zqk2 ?_; (case zqk1 => k_asm); (case zqk2 => k_is); k_whole))
  k_with "call builtin:list.append" => (k_here; k_dflt (refine' append_T ?zqF ?zqN ?zql ?zqz ?_; (case zqF => k_asm); (case zqN => k_asm); (case zql => assumption); (case zqz => assumption)); intro h' F' N'; (try k_sweep))
  k_with "getMethod ref" => (k_here; (with_reducible show wpAny _ _ (getMethod _ (Str.ofString "group") _) _ _ _); k_dflt (refine' getMm ?zqN ?zqm ?_; (case zqN => k_asm); (case zqm => k_mem)))
  k_with "call builtin:re.Match.group" => (k_here; k_dflt (refine' group_E ?zqz ?zqN ?zqm ?zqn ?_; (case zqN => k_asm); (case zqm => k_mem); (case zqn => k_mem); (case zqz => omega)); intro tk')
  k_with "truthy str" => (k_here; refine truthy_c (by simp [Array.size_extract]; omega) ?_)
  k_with "binaryOp Add str str" => (k_here; refine add_c (by simp [Array.size_extract, lit_nil]; omega) ?_; intro ta' tka')
  k_with "MINE lam" => (refine' kla_code ?zqk1 ?zqk2 ?zqk3 ?zqk4 ?zqk5 ?zqkA ?zqkF ?zqkK ?zqk6 ?zqk7 ?zqk8 ?zqk9 ?zqkB ?_ ?zqc2 ?zqc3 ?zqc4 ?zqc5; (case zqkA => exact rfl); (case zqkF => exact rfl); (case zqkK => exact rfl); (case zqk1 => k_asm); (case zqk2 => k_asm); (case zqk3 => k_asm); (case zqk4 => k_asm); (case zqk5 => k_asm); (case zqk6 => k_mem); (case zqk7 => exact codeRec_news (by k_asm) (by k_mem) (by assumption) (by assumption)); (case zqk8 => ktr_room); (case zqk9 => exact rfl); (case zqc5 => decide); (case zqkB => exact locs rfl); (case zqc2 => exact rfl); (case zqc3 => exact rfl); (case zqc4 => exact rfl); k_whole; intro g' L' h' FG' F' N' B' X' T'; (try dsimp only); (try k_lift B'); (try k_fold))
  k_with "compareOp NotIn str str" => (k_here; first | refine notin_c _ (in_ws _) ?_ | refine notin_c _ (in_bt _) ?_ | refine notin_c _ (in_nr _) ?_ | refine notin_c _ (in_bad _) ?_ | refine notin_c _ (in_punct _) ?_)
  k_with "ite" => (first | (with_reducible refine ite_ff9 ?_) | (with_reducible refine ite_tt9 ?_))
  k_with "call builtin:str.join" => (k_here; k_dflt (refine' join_c ?zqN ?zqm ?zqs ?zqz ?_; (case zqN => k_asm); (case zqm => k_mem); (case zqs => assumption); (case zqz => assumption)); intro tj' tkj')
  exact True.intro
/-- a call with keywords that may make the lambda's code -/
def SpecTK (w : World) (p : Program) (loose : List Str) (mean : ExcName → Option Value) (mg mb : Str → Option Value) (f : Addr) (size : Nat) (vs : List Value) (kw : List (Str × Value)) (post : List (Addr × Obj) → Value → Prop) : Prop :=
  ∀ (dp un : Nat) (gd : Option (List Code)) (cn : Str) (cs : Scope) (a : Addr) (ccd : Value) (cl : List (Str × Addr)) (outer : List Env) (A₀ : Around) (base h₀ : Heap) (L : Addr) (m : Str → Option Value) (news T : List (Addr × Obj)) (s : Shared) (Q E : Value → Shared → Prop),
    Below A₀ base outer h₀ → Fr h₀ L s.heap m → Frag.In (hd.heap_39 w.params) h₀ → News h₀ L s.heap (news ++ T) → Top p loose mean mg mb h₀ → cs.kind = .function → dp + size < recursionLimit → un + 8 * size < cLine →
    CodeHd base 80 76 → TabBlock T → (∀ q ∈ news, q.1 ≠ 76) →
    (∀ r tl T' h' tk', Fr h₀ L h' m → News h₀ L h' (tl ++ (news ++ T')) → TabBlock T' → (∀ q ∈ news, ∀ p ∈ tl, q.1 < p.1) → (∀ p ∈ tl, p.1 ≠ 76) → post tl r → Q r { s with heap := h', toks := tk' }) →
    wpAny (model PySem.Challenge.rw_ba0041_01.row.prog w) (ktrTop dp un gd cn cs L a ccd cl outer) (call (.ref f) vs kw) Q E s
theorem SpecTK.use {w : World} {p : Program} {loose : List Str} {mean : ExcName → Option Value} {mg mb : Str → Option Value} {f : Addr} {size : Nat} {vs : List Value} {kw : List (Str × Value)} {post : List (Addr × Obj) → Value → Prop} (h : SpecTK w p loose mean mg mb f size vs kw post)
    {dp un : Nat} {gd : Option (List Code)} {cn : Str} {cs : Scope} {a : Addr} {ccd : Value} {cl : List (Str × Addr)} {outer : List Env} {A₀ : Around} {base h₀ : Heap} {L : Addr} {m : Str → Option Value} {led : List (Addr × Obj)} {s : Shared} {Q E : Value → Shared → Prop} (news T : List (Addr × Obj))
    (B : Below A₀ base outer h₀) (F : Fr h₀ L s.heap m) (X : Frag.In (hd.heap_39 w.params) h₀) (N : News h₀ L s.heap led) (Tt : Top p loose mean mg mb h₀) (hk : cs.kind = .function) (hd : dp + size < recursionLimit) (hu : un + 8 * size < cLine)
    (hC : CodeHd base 80 76) (hT : TabBlock T) (h76 : ∀ q ∈ news, q.1 ≠ 76) (hsub : ∀ q ∈ news ++ T, q ∈ led)
    (ret : ∀ r tl T' h' tk', Fr h₀ L h' m → News h₀ L h' (tl ++ (news ++ T')) → TabBlock T' → (∀ q ∈ news, ∀ p ∈ tl, q.1 < p.1) → (∀ p ∈ tl, p.1 ≠ 76) → post tl r → Q r { s with heap := h', toks := tk' }) :
    wpAny (model PySem.Challenge.rw_ba0041_01.row.prog w) (ktrTop dp un gd cn cs L a ccd cl outer) (call (.ref f) vs kw) Q E s :=
  h _ _ _ _ _ _ _ _ _ _ _ _ _ _ _ _ _ _ _ B F X (fun q hq => N q (hsub q hq)) Tt hk hd hu hC hT h76 ret

theorem words_s_skip2_1 : True := by
  k_with_none
  w_top off
  k_with "MINE ar" => (with_reducible first | assumption | decide | ((show @LT.lt Nat _ _ _); first | exact ar_n1 (by assumption) | exact ar_n2 (by assumption) | exact ar_n6 (by assumption) | exact ar_n12 (by assumption) | exact ar_n13 (by assumption) | exact ar_k1 (by assumption) | exact ar_k2 (by assumption) | exact ar_k3 (by assumption) | exact ar_k4 (by assumption) | exact ar_k8 (by assumption) | exact ar_m1 (by assumption) | exact ar_m2 (by assumption) | exact ar_m3 (by assumption) | exact ar_m4 (by assumption) | exact ar_m5 (by assumption) | exact ar_e4 (by assumption) | exact ar_e5 (by assumption) | exact ar_r1 (by assumption) | exact Nat.lt_succ_self _ | exact ar_r2 (by assumption) (by decide) | exact ar_r3 (by assumption) (by decide) | exact ar_n7 (by assumption) (by assumption) | exact ar_n8 (by assumption) (by assumption) | exact ar_n16 (by assumption) (by assumption) | exact ar_n20 (by assumption) (by assumption) | exact ar_n21 (by assumption) (by assumption) | exact ar_n23 (by assumption) (by assumption) | exact ar_n24 (by assumption) (by assumption) | exact ar_e17 (by assumption) (by assumption) | exact ar_e19 (by assumption) (by assumption) | exact ar_n14 (by assumption) (by assumption) (by assumption) | exact ar_n26 (by assumption) (by assumption) (by assumption) | exact ar_n27 (by assumption) (by assumption) (by assumption) | exact ar_n15 (by assumption) (by assumption) (by assumption) (by assumption) | exact ar_n22 (by assumption) (by assumption) (by assumption) (by assumption)) | ((show @LE.le Nat _ _ _); first | exact Nat.le_refl _ | exact Nat.le_add_right _ _ | exact ar_n3 (by assumption) | exact ar_n4 (by assumption) | exact ar_n5 (by assumption) | exact ar_k7 (by assumption) | exact ar_k10 (by assumption) | exact ar_k13 (by assumption) | exact ar_e1 (by assumption) | exact ar_e2 (by assumption) | exact ar_e3 (by assumption) | exact ar_e6 (by assumption) | exact ar_e7 (by assumption) | exact ar_e8 (by assumption) | exact ar_s1 (by assumption) | exact ar_w2 (by assumption) | exact ar_n25 (by assumption) | exact ar_n9 (by assumption) (by assumption) | exact ar_n17 (by assumption) (by assumption) | exact ar_n28 (by assumption) (by assumption) | exact ar_e9 (by assumption) (by assumption) | exact ar_e10 (by assumption) (by assumption) | exact ar_e18 (by assumption) (by assumption) | exact ar_s3 (by assumption) (by assumption) | exact ar_n10 (by assumption) (by assumption) (by assumption) | exact ar_n11 (by assumption) (by assumption) (by assumption)) | ((show @LT.lt Int _ _ _); first | exact ar_k9 (by assumption) | exact ar_n18 (by assumption) | exact ar_n19 (by assumption) (by assumption)) | ((show @LE.le Int _ _ _); first | exact Int.natCast_nonneg _) | ((show @Eq Nat _ _); first | exact ar_e11 (by assumption) | exact ar_e12 (by assumption) | exact ar_e13 (by assumption) | exact ar_e15 (by assumption) | exact ar_s2 (by assumption) | exact ar_s4 (by assumption) | exact ar_w6 (by assumption) (by assumption) | exact ar_nn (by assumption)) | ((show @Eq Int _ _); first | exact ar_i5 | exact ar_i6 | exact ar_i7 | exact ar_i8 (by assumption)) | ((show ¬ _); first | exact ar_k5 (by assumption) | exact ar_k6 (by assumption) | exact ar_k11 (by assumption) | exact ar_k12 (by assumption) | exact ar_k14 (by assumption) | exact ar_e14 (by assumption) | exact ar_e16 (by assumption) | exact ar_e20 (by assumption) | exact ar_q1 (by assumption) | exact ar_q2 (by assumption) | exact ar_q3 (by assumption) | exact ar_q4 (by assumption) | exact ar_q5 (by assumption) | exact ar_w7 (by assumption) | exact ar_w8 (by assumption) | exact ar_w14 (by assumption) | exact ar_w16 (by assumption) | exact ar_w18 (by assumption) | exact ar_w19 (by assumption) | exact ar_w20 (by assumption) | exact ar_o3 (by assumption) | exact ar_o4 (by assumption) | exact ar_d (by assumption) (by decide) | exact ar_l1 (by assumption) (by assumption) | exact ar_l2 (by assumption) (by assumption) | exact ar_l3 (by assumption) (by assumption) | exact ar_w17 (by assumption) (by assumption) | exact ar_lv (by assumption) (by assumption) (by assumption) | exact ar_nn2 (by assumption)) | ((show _ ∧ _); first | exact ar_w1 (by assumption) | exact ar_w10 (by assumption) | exact ar_w12 (by assumption) | exact ar_w13 (by assumption) | exact ar_o2 (by assumption) | exact ar_w4 (by assumption) (by assumption) | exact ar_i4 (by assumption) (by assumption)) | ((show _ ∨ _); first | exact ar_o1 (by assumption) | exact ar_w3 (by assumption) (by assumption) | exact ar_w5 (by assumption) (by assumption) | exact ar_w9 (by assumption) (by assumption) | exact ar_w11 (by assumption) (by assumption)) | ((show _ ↔ _); first | exact ar_z3 | exact ar_z4 | exact ar_z5) | ((show False); first | exact (ar_f1 (by assumption) (by assumption) (by assumption)).elim | exact (ar_f2 (by assumption) (by assumption) (by assumption)).elim | exact (ar_c1 (by assumption) (by assumption)).elim | exact (ar_c2 (by assumption) (by assumption)).elim | exact (ar_c3 (by assumption) (by assumption)).elim | exact (ar_c4 (by assumption) (by assumption)).elim | exact (ar_c5 (by assumption) (by assumption)).elim | exact (ar_c7 (by assumption) (by assumption)).elim | exact (ar_c8 (by assumption) (by assumption)).elim | exact (ar_c9 (by assumption) (by assumption)).elim | exact (ar_c10 (by assumption) (by assumption)).elim | exact (ar_c11 (by assumption) (by assumption)).elim | exact (ar_c12 (by assumption) (by assumption)).elim | exact (ar_c13 (by assumption) (by assumption)).elim | exact (ar_f3 (by assumption) (by assumption)).elim | exact (ar_f4 (by assumption) (by assumption)).elim | exact (ar_f5 (by assumption) (by assumption)).elim | exact (ar_f6 (by assumption) (by assumption)).elim | exact (ar_f7 (by assumption) (by assumption)).elim | exact (ar_f8 (by assumption) (by assumption)).elim | exact (ar_f9 (by assumption) (by assumption)).elim | exact (ar_f10 (by assumption) (by assumption)).elim) | ((show @Eq _ _ _); first | exact (ar_f1 (by assumption) (by assumption) (by assumption)).elim | exact (ar_f2 (by assumption) (by assumption) (by assumption)).elim | exact (ar_c1 (by assumption) (by assumption)).elim | exact (ar_c2 (by assumption) (by assumption)).elim | exact (ar_c3 (by assumption) (by assumption)).elim | exact (ar_c4 (by assumption) (by assumption)).elim | exact (ar_c5 (by assumption) (by assumption)).elim | exact (ar_c7 (by assumption) (by assumption)).elim | exact (ar_c8 (by assumption) (by assumption)).elim | exact (ar_c9 (by assumption) (by assumption)).elim | exact (ar_c10 (by assumption) (by assumption)).elim | exact (ar_c11 (by assumption) (by assumption)).elim | exact (ar_c12 (by assumption) (by assumption)).elim | exact (ar_c13 (by assumption) (by assumption)).elim | exact (ar_f3 (by assumption) (by assumption)).elim | exact (ar_f4 (by assumption) (by assumption)).elim | exact (ar_f5 (by assumption) (by assumption)).elim | exact (ar_f6 (by assumption) (by assumption)).elim | exact (ar_f7 (by assumption) (by assumption)).elim | exact (ar_f8 (by assumption) (by assumption)).elim | exact (ar_f9 (by assumption) (by assumption)).elim | exact (ar_f10 (by assumption) (by assumption)).elim) | (intro _; first | exact (ar_f1 (by assumption) (by assumption) (by assumption)).elim | exact (ar_f2 (by assumption) (by assumption) (by assumption)).elim | exact (ar_c1 (by assumption) (by assumption)).elim | exact (ar_c2 (by assumption) (by assumption)).elim | exact (ar_c3 (by assumption) (by assumption)).elim | exact (ar_c4 (by assumption) (by assumption)).elim | exact (ar_c5 (by assumption) (by assumption)).elim | exact (ar_c7 (by assumption) (by assumption)).elim | exact (ar_c8 (by assumption) (by assumption)).elim | exact (ar_c9 (by assumption) (by assumption)).elim | exact (ar_c10 (by assumption) (by assumption)).elim | exact (ar_c11 (by assumption) (by assumption)).elim | exact (ar_c12 (by assumption) (by assumption)).elim | exact (ar_c13 (by assumption) (by assumption)).elim | exact (ar_f3 (by assumption) (by assumption)).elim | exact (ar_f4 (by assumption) (by assumption)).elim | exact (ar_f5 (by assumption) (by assumption)).elim | exact (ar_f6 (by assumption) (by assumption)).elim | exact (ar_f7 (by assumption) (by assumption)).elim | exact (ar_f8 (by assumption) (by assumption)).elim | exact (ar_f9 (by assumption) (by assumption)).elim | exact (ar_f10 (by assumption) (by assumption)).elim) | exact ar_i1 (by assumption) | exact ar_i2 (by assumption) | exact ar_i3 (by assumption) (by decide))
  k_with "MINE enter" => (refine' code_def ?zqk1 ?zqk2 ?zqk3 ?zqk4 ?zqk5 ?zqkA ?zqkF ?zqkK ?zqk6 ?zqk7 ?zqk8 ?zqk9 ?zqkB ?_ ?zqc2 ?zqc3 ?zqc4 ?zqc5; (case zqkA => exact rfl); (case zqkF => exact rfl); (case zqkK => assumption); (case zqk1 => k_asm); (case zqk2 => k_asm); (case zqk3 => k_asm); (case zqk4 => k_asm); (case zqk5 => k_asm); (case zqk6 => k_is); (case zqk7 => k_is); (case zqk8 => ktr_room); (case zqk9 => first | exact BindsTo.of_eq rfl | exact binds_K (by k_in) rfl (by k_is) rfl rfl rfl); (case zqc5 => decide); (case zqkB => exact locs rfl); (case zqc2 => exact rfl); (case zqc3 => exact rfl); (case zqc4 => exact rfl); k_whole; intro g' L' h' FG' F' N' B' X' T'; (try dsimp only); (try k_lift B'); (try k_fold))
  k_with "exec While BoolOp cons nil" => (refine stop ?_)
  k_with "exec While Compare cons nil" => (refine stop ?_)
  k_with "MINE same" => (intro z h2 h3; simp only [List.forall_mem_cons, List.not_mem_nil, false_implies, implies_true, and_true, ne_eq] at h2; (try simp only [List.contains_cons, List.contains_nil, Bool.or_false, Bool.or_eq_false_iff, beq_eq_false_iff_ne, ne_eq] at h3); simp [kstB, h2, h3])
  k_with "KswPost" => (refine stop ?_)
  k_with "subscriptTail Name Name str int" => (k_here; (with_unfolding_all refine' item_a ?zqk0 ?zqk1 ?zqk2 ?zqk3 ?_; (case zqk0 => assumption); (case zqk1 => first | rfl | exact Int.natCast_add _ _ | omega); (case zqk2 => omega); (case zqk3 => omega)); intro hItem')
  k_with "subscriptTail Name BinOp str int" => (k_here; (with_unfolding_all refine' item_a (n := _ + 1) ?zqk0 ?zqk1 ?zqk2 ?zqk3 ?_; (case zqk0 => assumption); (case zqk1 => rfl); (case zqk2 => omega); (case zqk3 => omega)); intro hItem')
  k_with "compareOp Eq str str" => (k_here; first | refine eq_c lit_lt ?_ | refine eq_c lit_gt ?_ | refine eq_c lit_bs ?_ | refine eq_c lit_lp ?_ | refine eq_c lit_rp ?_ | refine eq_c lit_nl ?_ | refine eq_c lit_cr ?_ | refine eq_c lit_del ?_ | refine eq_c lit_nul ?_ | refine eq_c lit_blank ?_)
  k_with "compareOp In str str" => (k_here; first | refine in_c _ (in_ws _) ?_ | refine in_c _ (in_bt _) ?_ | refine in_c _ (in_nr _) ?_ | refine in_c _ (in_bad _) ?_ | refine in_c _ (in_punct _) ?_)
  k_with "call builtin:len" => (k_here; (with_reducible show wpAny _ _ (call (Value.builtin "len") [Value.str _ _]) _ _ _); refine len_c (by omega) ?_)
  k_with "call ref" => (k_here; (with_reducible show wpAny _ _ (call (Value.ref _) _ _) _ _ _); refine stop ?_)
  k_with "MINE room" => ((case B => k_asm); (case F => k_asm); (case X => k_asm); (case N => k_asm); (case T => k_asm); (case hk => first | exact rfl | assumption); (case hd => ktr_room); (case hu => ktr_units))
  k_with "getMethod ref" => (k_here; (with_reducible show wpAny _ _ (getMethod _ (Str.ofString "sub") _) _ _ _); k_dflt (refine' getM ?zqF ?zqX ?zql slot_sub type_sub ?_; (case zqF => k_asm); (case zqX => k_asm); (case zql => k_is)))
  k_with "getMethod ref" => (k_here; (with_reducible show wpAny _ _ (getMethod _ (Str.ofString "match") _) _ _ _); k_dflt (refine' getM ?zqF ?zqX ?zql slot_match type_match ?_; (case zqF => k_asm); (case zqX => k_asm); (case zql => k_is)))
  k_with "callWith ref" => (k_here; k_dflt (refine' callWith_K ?zqk1 ?zqk2 ?_; (case zqk1 => k_asm); (case zqk2 => k_is); k_whole))
  k_with "call builtin:list.append" => (k_here; k_dflt (refine' append_T ?zqF ?zqN ?zql ?zqz ?_; (case zqF => k_asm); (case zqN => k_asm); (case zql => assumption); (case zqz => assumption)); intro h' F' N'; (try k_sweep))
  k_with "getMethod ref" => (k_here; (with_reducible show wpAny _ _ (getMethod _ (Str.ofString "group") _) _ _ _); k_dflt (refine' getMm ?zqN ?zqm ?_; (case zqN => k_asm); (case zqm => k_mem)))
  k_with "call builtin:re.Match.group" => (k_here; k_dflt (refine' group_E ?zqz ?zqN ?zqm ?zqn ?_; (case zqN => k_asm); (case zqm => k_mem); (case zqn => k_mem); (case zqz => omega)); intro tk')
  k_with "truthy str" => (k_here; refine truthy_c (by simp [Array.size_extract]; omega) ?_)
  k_with "binaryOp Add str str" => (k_here; refine add_c (by simp [Array.size_extract, lit_nil]; omega) ?_; intro ta' tka')
  k_with "MINE lam" => (refine' kla_code ?zqk1 ?zqk2 ?zqk3 ?zqk4 ?zqk5 ?zqkA ?zqkF ?zqkK ?zqk6 ?zqk7 ?zqk8 ?zqk9 ?zqkB ?_ ?zqc2 ?zqc3 ?zqc4 ?zqc5; (case zqkA => exact rfl); (case zqkF => exact rfl); (case zqkK => exact rfl); (case zqk1 => k_asm); (case zqk2 => k_asm); (case zqk3 => k_asm); (case zqk4 => k_asm); (case zqk5 => k_asm); (case zqk6 => k_mem); (case zqk7 => exact codeRec_news (by k_asm) (by k_mem) (by assumption) (by assumption)); (case zqk8 => ktr_room); (case zqk9 => exact rfl); (case zqc5 => decide); (case zqkB => exact locs rfl); (case zqc2 => exact rfl); (case zqc3 => exact rfl); (case zqc4 => exact rfl); k_whole; intro g' L' h' FG' F' N' B' X' T'; (try dsimp only); (try k_lift B'); (try k_fold))
  k_with "compareOp NotIn str str" => (k_here; first | refine notin_c _ (in_ws _) ?_ | refine notin_c _ (in_bt _) ?_ | refine notin_c _ (in_nr _) ?_ | refine notin_c _ (in_bad _) ?_ | refine notin_c _ (in_punct _) ?_)
  k_with "ite" => (first | (with_reducible refine ite_ff9 ?_) | (with_reducible refine ite_tt9 ?_))
  k_with "call builtin:str.join" => (k_here; k_dflt (refine' join_c ?zqN ?zqm ?zqs ?zqz ?_; (case zqN => k_asm); (case zqm => k_mem); (case zqs => assumption); (case zqz => assumption)); intro tj' tkj')
  exact True.intro
set_option maxRecDepth 100000 in
set_option maxHeartbeats 8000000 in
theorem skip2_spec {w : World} {p : Program} {loose : List Str} {mean : ExcName → Option Value} {mg mb : Str → Option Value} {src : Str} {st pt : Tok} {pos : Nat} {us : List U}
   (hA : At src pos us) (hsz : src.cps.size < 100) (hal : Alpha src) :
   SpecOf w p loose mean mg mb 121 1 [.str src st, .int pos pt] (fun tl r => tl = [] ∧ ∃ (n : Nat) (t : Tok), r = .int n t ∧ At src n (dropWs us) ∧ pos ≤ n) := by
  unfold SpecOf
  k_fill
  intro dp un gd cn cs a ccd cl outer A₀ base h₀ L m news s Q E B F X N T hk hd hu hret
  all_goals (
    refine wpAny_call ?_
    k_dflt walk_at "MINE enter"
    k_steps)
  all_goals (
    refine stop ?_
    rename Fr _ _ _ _ => F1
    rename News _ _ _ _ => N1
    refine ksw_abs (σ := Nat × Tok × List U) (fun _ => news) (fun c => [("pos", .int c.1 c.2.1)]) [] (fun c => At src c.1 c.2.2 ∧ dropWs c.2.2 = dropWs us ∧ pos ≤ c.1) (fun c => src.cps.size - c.1) (pos, pt, us) F1 N1 (by kst_all) ⟨hA, rfl, Nat.le_refl _⟩ ?_
    rintro R9 ⟨k, t, us'⟩ u h tk hR9 ⟨ha, hb, hc⟩ F2 N2
    dsimp only at ha hb hc F2
    try k_fold
    k_steps)
  all_goals (first
    | (refine hR9 _ _ ?_
       dsimp only [KswPost]
       obtain ⟨r, rfl, ha'⟩ := ha.one (by omega) (by intro h1; omega)
       rename News _ _ _ _ => nE'
       refine ksw_end ⟨k + 1, _, r⟩ (by assumption) nE' (fun _ h => h) trivial (by kst_all) (by walk_at "MINE same") ⟨ha', ?_, by dsimp only; omega⟩ (by dsimp only; omega)
       have hal' := hal k (by omega)
       dsimp only
       rw [← hb, dropWs_cons_ws]
       exact ws_of hal' (by assumption))
    | (refine hret _ [] _ _ (by assumption) (by assumption) (fun _ _ _ h => nomatch h) ⟨rfl, k, t, rfl, ?_, hc⟩
       rw [← hb, ha.dropWs_self]
       · exact ha
       · intro hk; omega))

theorem ne_c {prog : Program} {w : World} {A : Around} {E : Value → Shared → Prop} {s : Shared} {y : Str} {c n : Nat} {t u : Tok} {Q : Value → Shared → Prop} (hy : y = ⟨#[n]⟩)
    (h : Q (.bool (decide (¬ c = n))) s) : wpAny (model prog w) A (compareOp .NotEq (.str ⟨#[c]⟩ u) (.str y t)) Q E s := by
  subst hy
  refine PyProof.Rows.ne_str ?_
  rw [show ((⟨#[c]⟩ : Str) != ⟨#[n]⟩) = decide (¬ c = n) from by
    by_cases h : c = n
    · subst h; simp
    · simp [bne, h]]
  exact h

theorem words_s_pwe_1 : True := by
  k_with_none
  w_top off
  k_with "MINE ar" => (with_reducible first | assumption | decide | ((show @LT.lt Nat _ _ _); first | exact ar_n1 (by assumption) | exact ar_n2 (by assumption) | exact ar_n6 (by assumption) | exact ar_n12 (by assumption) | exact ar_n13 (by assumption) | exact ar_k1 (by assumption) | exact ar_k2 (by assumption) | exact ar_k3 (by assumption) | exact ar_k4 (by assumption) | exact ar_k8 (by assumption) | exact ar_m1 (by assumption) | exact ar_m2 (by assumption) | exact ar_m3 (by assumption) | exact ar_m4 (by assumption) | exact ar_m5 (by assumption) | exact ar_e4 (by assumption) | exact ar_e5 (by assumption) | exact ar_r1 (by assumption) | exact Nat.lt_succ_self _ | exact ar_r2 (by assumption) (by decide) | exact ar_r3 (by assumption) (by decide) | exact ar_n7 (by assumption) (by assumption) | exact ar_n8 (by assumption) (by assumption) | exact ar_n16 (by assumption) (by assumption) | exact ar_n20 (by assumption) (by assumption) | exact ar_n21 (by assumption) (by assumption) | exact ar_n23 (by assumption) (by assumption) | exact ar_n24 (by assumption) (by assumption) | exact ar_e17 (by assumption) (by assumption) | exact ar_e19 (by assumption) (by assumption) | exact ar_n14 (by assumption) (by assumption) (by assumption) | exact ar_n26 (by assumption) (by assumption) (by assumption) | exact ar_n27 (by assumption) (by assumption) (by assumption) | exact ar_n15 (by assumption) (by assumption) (by assumption) (by assumption) | exact ar_n22 (by assumption) (by assumption) (by assumption) (by assumption)) | ((show @LE.le Nat _ _ _); first | exact Nat.le_refl _ | exact Nat.le_add_right _ _ | exact ar_n3 (by assumption) | exact ar_n4 (by assumption) | exact ar_n5 (by assumption) | exact ar_k7 (by assumption) | exact ar_k10 (by assumption) | exact ar_k13 (by assumption) | exact ar_e1 (by assumption) | exact ar_e2 (by assumption) | exact ar_e3 (by assumption) | exact ar_e6 (by assumption) | exact ar_e7 (by assumption) | exact ar_e8 (by assumption) | exact ar_s1 (by assumption) | exact ar_w2 (by assumption) | exact ar_n25 (by assumption) | exact ar_n9 (by assumption) (by assumption) | exact ar_n17 (by assumption) (by assumption) | exact ar_n28 (by assumption) (by assumption) | exact ar_e9 (by assumption) (by assumption) | exact ar_e10 (by assumption) (by assumption) | exact ar_e18 (by assumption) (by assumption) | exact ar_s3 (by assumption) (by assumption) | exact ar_n10 (by assumption) (by assumption) (by assumption) | exact ar_n11 (by assumption) (by assumption) (by assumption)) | ((show @LT.lt Int _ _ _); first | exact ar_k9 (by assumption) | exact ar_n18 (by assumption) | exact ar_n19 (by assumption) (by assumption)) | ((show @LE.le Int _ _ _); first | exact Int.natCast_nonneg _) | ((show @Eq Nat _ _); first | exact ar_e11 (by assumption) | exact ar_e12 (by assumption) | exact ar_e13 (by assumption) | exact ar_e15 (by assumption) | exact ar_s2 (by assumption) | exact ar_s4 (by assumption) | exact ar_w6 (by assumption) (by assumption) | exact ar_nn (by assumption)) | ((show @Eq Int _ _); first | exact ar_i5 | exact ar_i6 | exact ar_i7 | exact ar_i8 (by assumption)) | ((show ¬ _); first | exact ar_k5 (by assumption) | exact ar_k6 (by assumption) | exact ar_k11 (by assumption) | exact ar_k12 (by assumption) | exact ar_k14 (by assumption) | exact ar_e14 (by assumption) | exact ar_e16 (by assumption) | exact ar_e20 (by assumption) | exact ar_q1 (by assumption) | exact ar_q2 (by assumption) | exact ar_q3 (by assumption) | exact ar_q4 (by assumption) | exact ar_q5 (by assumption) | exact ar_w7 (by assumption) | exact ar_w8 (by assumption) | exact ar_w14 (by assumption) | exact ar_w16 (by assumption) | exact ar_w18 (by assumption) | exact ar_w19 (by assumption) | exact ar_w20 (by assumption) | exact ar_o3 (by assumption) | exact ar_o4 (by assumption) | exact ar_d (by assumption) (by decide) | exact ar_l1 (by assumption) (by assumption) | exact ar_l2 (by assumption) (by assumption) | exact ar_l3 (by assumption) (by assumption) | exact ar_w17 (by assumption) (by assumption) | exact ar_lv (by assumption) (by assumption) (by assumption) | exact ar_nn2 (by assumption)) | ((show _ ∧ _); first | exact ar_w1 (by assumption) | exact ar_w10 (by assumption) | exact ar_w12 (by assumption) | exact ar_w13 (by assumption) | exact ar_o2 (by assumption) | exact ar_w4 (by assumption) (by assumption) | exact ar_i4 (by assumption) (by assumption)) | ((show _ ∨ _); first | exact ar_o1 (by assumption) | exact ar_w3 (by assumption) (by assumption) | exact ar_w5 (by assumption) (by assumption) | exact ar_w9 (by assumption) (by assumption) | exact ar_w11 (by assumption) (by assumption)) | ((show _ ↔ _); first | exact ar_z3 | exact ar_z4 | exact ar_z5) | ((show False); first | exact (ar_f1 (by assumption) (by assumption) (by assumption)).elim | exact (ar_f2 (by assumption) (by assumption) (by assumption)).elim | exact (ar_c1 (by assumption) (by assumption)).elim | exact (ar_c2 (by assumption) (by assumption)).elim | exact (ar_c3 (by assumption) (by assumption)).elim | exact (ar_c4 (by assumption) (by assumption)).elim | exact (ar_c5 (by assumption) (by assumption)).elim | exact (ar_c7 (by assumption) (by assumption)).elim | exact (ar_c8 (by assumption) (by assumption)).elim | exact (ar_c9 (by assumption) (by assumption)).elim | exact (ar_c10 (by assumption) (by assumption)).elim | exact (ar_c11 (by assumption) (by assumption)).elim | exact (ar_c12 (by assumption) (by assumption)).elim | exact (ar_c13 (by assumption) (by assumption)).elim | exact (ar_f3 (by assumption) (by assumption)).elim | exact (ar_f4 (by assumption) (by assumption)).elim | exact (ar_f5 (by assumption) (by assumption)).elim | exact (ar_f6 (by assumption) (by assumption)).elim | exact (ar_f7 (by assumption) (by assumption)).elim | exact (ar_f8 (by assumption) (by assumption)).elim | exact (ar_f9 (by assumption) (by assumption)).elim | exact (ar_f10 (by assumption) (by assumption)).elim) | ((show @Eq _ _ _); first | exact (ar_f1 (by assumption) (by assumption) (by assumption)).elim | exact (ar_f2 (by assumption) (by assumption) (by assumption)).elim | exact (ar_c1 (by assumption) (by assumption)).elim | exact (ar_c2 (by assumption) (by assumption)).elim | exact (ar_c3 (by assumption) (by assumption)).elim | exact (ar_c4 (by assumption) (by assumption)).elim | exact (ar_c5 (by assumption) (by assumption)).elim | exact (ar_c7 (by assumption) (by assumption)).elim | exact (ar_c8 (by assumption) (by assumption)).elim | exact (ar_c9 (by assumption) (by assumption)).elim | exact (ar_c10 (by assumption) (by assumption)).elim | exact (ar_c11 (by assumption) (by assumption)).elim | exact (ar_c12 (by assumption) (by assumption)).elim | exact (ar_c13 (by assumption) (by assumption)).elim | exact (ar_f3 (by assumption) (by assumption)).elim | exact (ar_f4 (by assumption) (by assumption)).elim | exact (ar_f5 (by assumption) (by assumption)).elim | exact (ar_f6 (by assumption) (by assumption)).elim | exact (ar_f7 (by assumption) (by assumption)).elim | exact (ar_f8 (by assumption) (by assumption)).elim | exact (ar_f9 (by assumption) (by assumption)).elim | exact (ar_f10 (by assumption) (by assumption)).elim) | (intro _; first | exact (ar_f1 (by assumption) (by assumption) (by assumption)).elim | exact (ar_f2 (by assumption) (by assumption) (by assumption)).elim | exact (ar_c1 (by assumption) (by assumption)).elim | exact (ar_c2 (by assumption) (by assumption)).elim | exact (ar_c3 (by assumption) (by assumption)).elim | exact (ar_c4 (by assumption) (by assumption)).elim | exact (ar_c5 (by assumption) (by assumption)).elim | exact (ar_c7 (by assumption) (by assumption)).elim | exact (ar_c8 (by assumption) (by assumption)).elim | exact (ar_c9 (by assumption) (by assumption)).elim | exact (ar_c10 (by assumption) (by assumption)).elim | exact (ar_c11 (by assumption) (by assumption)).elim | exact (ar_c12 (by assumption) (by assumption)).elim | exact (ar_c13 (by assumption) (by assumption)).elim | exact (ar_f3 (by assumption) (by assumption)).elim | exact (ar_f4 (by assumption) (by assumption)).elim | exact (ar_f5 (by assumption) (by assumption)).elim | exact (ar_f6 (by assumption) (by assumption)).elim | exact (ar_f7 (by assumption) (by assumption)).elim | exact (ar_f8 (by assumption) (by assumption)).elim | exact (ar_f9 (by assumption) (by assumption)).elim | exact (ar_f10 (by assumption) (by assumption)).elim) | exact ar_i1 (by assumption) | exact ar_i2 (by assumption) | exact ar_i3 (by assumption) (by decide))
  k_with "MINE enter" => (refine' code_def ?zqk1 ?zqk2 ?zqk3 ?zqk4 ?zqk5 ?zqkA ?zqkF ?zqkK ?zqk6 ?zqk7 ?zqk8 ?zqk9 ?zqkB ?_ ?zqc2 ?zqc3 ?zqc4 ?zqc5; (case zqkA => exact rfl); (case zqkF => exact rfl); (case zqkK => assumption); (case zqk1 => k_asm); (case zqk2 => k_asm); (case zqk3 => k_asm); (case zqk4 => k_asm); (case zqk5 => k_asm); (case zqk6 => k_is); (case zqk7 => k_is); (case zqk8 => ktr_room); (case zqk9 => first | exact BindsTo.of_eq rfl | exact binds_K (by k_in) rfl (by k_is) rfl rfl rfl); (case zqc5 => decide); (case zqkB => exact locs rfl); (case zqc2 => exact rfl); (case zqc3 => exact rfl); (case zqc4 => exact rfl); k_whole; intro g' L' h' FG' F' N' B' X' T'; (try dsimp only); (try k_lift B'); (try k_fold))
  k_with "exec While BoolOp cons nil" => (refine stop ?_)
  k_with "exec While Compare cons nil" => (refine stop ?_)
  k_with "MINE same" => (intro z h2 h3; simp only [List.forall_mem_cons, List.not_mem_nil, false_implies, implies_true, and_true, ne_eq] at h2; (try simp only [List.contains_cons, List.contains_nil, Bool.or_false, Bool.or_eq_false_iff, beq_eq_false_iff_ne, ne_eq] at h3); simp [kstB, h2, h3])
  k_with "KswPost" => (refine stop ?_)
  k_with "subscriptTail Name Name str int" => (k_here; (with_unfolding_all refine' item_a ?zqk0 ?zqk1 ?zqk2 ?zqk3 ?_; (case zqk0 => assumption); (case zqk1 => first | rfl | exact Int.natCast_add _ _ | omega); (case zqk2 => omega); (case zqk3 => omega)); intro hItem')
  k_with "subscriptTail Name BinOp str int" => (k_here; (with_unfolding_all refine' item_a (n := _ + 1) ?zqk0 ?zqk1 ?zqk2 ?zqk3 ?_; (case zqk0 => assumption); (case zqk1 => rfl); (case zqk2 => omega); (case zqk3 => omega)); intro hItem')
  k_with "compareOp Eq str str" => (k_here; first | refine eq_c lit_lt ?_ | refine eq_c lit_gt ?_ | refine eq_c lit_bs ?_ | refine eq_c lit_lp ?_ | refine eq_c lit_rp ?_ | refine eq_c lit_nl ?_ | refine eq_c lit_cr ?_ | refine eq_c lit_del ?_ | refine eq_c lit_nul ?_ | refine eq_c lit_blank ?_)
  k_with "compareOp In str str" => (k_here; first | refine in_c _ (in_ws _) ?_ | refine in_c _ (in_bt _) ?_ | refine in_c _ (in_nr _) ?_ | refine in_c _ (in_bad _) ?_ | refine in_c _ (in_punct _) ?_)
  k_with "call builtin:len" => (k_here; (with_reducible show wpAny _ _ (call (Value.builtin "len") [Value.str _ _]) _ _ _); refine len_c (by omega) ?_)
  k_with "call ref" => (k_here; (with_reducible show wpAny _ _ (call (Value.ref _) _ _) _ _ _); refine stop ?_)
  k_with "MINE room" => ((case B => k_asm); (case F => k_asm); (case X => k_asm); (case N => k_asm); (case T => k_asm); (case hk => first | exact rfl | assumption); (case hd => ktr_room); (case hu => ktr_units))
  k_with "getMethod ref" => (k_here; (with_reducible show wpAny _ _ (getMethod _ (Str.ofString "sub") _) _ _ _); k_dflt (refine' getM ?zqF ?zqX ?zql slot_sub type_sub ?_; (case zqF => k_asm); (case zqX => k_asm); (case zql => k_is)))
  k_with "getMethod ref" => (k_here; (with_reducible show wpAny _ _ (getMethod _ (Str.ofString "match") _) _ _ _); k_dflt (refine' getM ?zqF ?zqX ?zql slot_match type_match ?_; (case zqF => k_asm); (case zqX => k_asm); (case zql => k_is)))
  k_with "callWith ref" => (k_here; k_dflt (refine' callWith_K ?zqk1 ?zqk2 ?_; (case zqk1 => k_asm); (case zqk2 => k_is); k_whole))
  k_with "call builtin:list.append" => (k_here; k_dflt (refine' append_T ?zqF ?zqN ?zql ?zqz ?_; (case zqF => k_asm); (case zqN => k_asm); (case zql => assumption); (case zqz => assumption)); intro h' F' N'; (try k_sweep))
  k_with "getMethod ref" => (k_here; (with_reducible show wpAny _ _ (getMethod _ (Str.ofString "group") _) _ _ _); k_dflt (refine' getMm ?zqN ?zqm ?_; (case zqN => k_asm); (case zqm => k_mem)))
  k_with "call builtin:re.Match.group" => (k_here; k_dflt (refine' group_E ?zqz ?zqN ?zqm ?zqn ?_; (case zqN => k_asm); (case zqm => k_mem); (case zqn => k_mem); (case zqz => omega)); intro tk')
  k_with "truthy str" => (k_here; refine truthy_c (by simp [Array.size_extract]; omega) ?_)
  k_with "binaryOp Add str str" => (k_here; refine add_c (by simp [Array.size_extract, lit_nil]; omega) ?_; intro ta' tka')
  k_with "MINE lam" => (refine' kla_code ?zqk1 ?zqk2 ?zqk3 ?zqk4 ?zqk5 ?zqkA ?zqkF ?zqkK ?zqk6 ?zqk7 ?zqk8 ?zqk9 ?zqkB ?_ ?zqc2 ?zqc3 ?zqc4 ?zqc5; (case zqkA => exact rfl); (case zqkF => exact rfl); (case zqkK => exact rfl); (case zqk1 => k_asm); (case zqk2 => k_asm); (case zqk3 => k_asm); (case zqk4 => k_asm); (case zqk5 => k_asm); (case zqk6 => k_mem); (case zqk7 => exact codeRec_news (by k_asm) (by k_mem) (by assumption) (by assumption)); (case zqk8 => ktr_room); (case zqk9 => exact rfl); (case zqc5 => decide); (case zqkB => exact locs rfl); (case zqc2 => exact rfl); (case zqc3 => exact rfl); (case zqc4 => exact rfl); k_whole; intro g' L' h' FG' F' N' B' X' T'; (try dsimp only); (try k_lift B'); (try k_fold))
  k_with "compareOp NotIn str str" => (k_here; first | refine notin_c _ (in_ws _) ?_ | refine notin_c _ (in_bt _) ?_ | refine notin_c _ (in_nr _) ?_ | refine notin_c _ (in_bad _) ?_ | refine notin_c _ (in_punct _) ?_)
  k_with "ite" => (first | (with_reducible refine ite_ff9 ?_) | (with_reducible refine ite_tt9 ?_))
  k_with "call builtin:str.join" => (k_here; k_dflt (refine' join_c ?zqN ?zqm ?zqs ?zqz ?_; (case zqN => k_asm); (case zqm => k_mem); (case zqs => assumption); (case zqz => assumption)); intro tj' tkj')
  k_with "compareOp NotEq str str" => (k_here; first | refine ne_c lit_lt ?_ | refine ne_c lit_gt ?_ | refine ne_c lit_rp ?_ | refine ne_c lit_lp ?_)
  exact True.intro
theorem At.ending_none {src : Str} {n : Nat} {us t : List U} (hA : At src n us) (h : ∀ hn : n < src.cps.size, src.cps[n] ≠ 41) : ending us t = none := by
  rcases hA.split with ⟨e, _⟩ | ⟨hk, r0, e0, _, _⟩ | ⟨hk, r0, h92, _, e0, _⟩
  · rw [e]; rfl
  · rw [e0]
    have := h hk
    unfold ending
    simp [U.is, this]
  · rw [e0]
    unfold ending
    simp [U.is]
theorem At.ending_some {src : Str} {n : Nat} {us t : List U} (hA : At src n us) (hn : n < src.cps.size) (h : src.cps[n] = 41) : ∃ r, ending us t = some (t, r) ∧ At src (n + 1) r := by
  obtain ⟨r, rfl, hr⟩ := hA.one hn (by intro h1; omega)
  refine ⟨r, ?_, hr⟩
  unfold ending
  simp [U.is, h]
theorem title_split : ∀ (us g r : List U) (op : Nat), title op us = some (g, r) → ∃ q, us = g ++ q :: r := by
  intro us
  induction us with
  | nil => intro g r op h; cases h
  | cons u us ih =>
    intro g r op h
    rw [title_cons] at h
    split at h
    · cases h; exact ⟨u, rfl⟩
    · split at h
      · cases h
      · cases ha : title op us with
        | none => rw [ha] at h; cases h
        | some q =>
          rw [ha] at h
          cases h
          obtain ⟨q', e⟩ := ih q.1 q.2 op ha
          exact ⟨q', by rw [List.cons_append, ← e]⟩
theorem titleAt_len {src : Str} {n : Nat} {us t r : List U} (hA : At src n us) (h : titleAt us = some (t, r)) : (plain t).length ≤ src.cps.size := by
  cases us with
  | nil => cases h
  | cons u r1 =>
    cases hw : u.ws with
    | false => rw [titleAt_not hw] at h; cases h
    | true =>
      obtain ⟨k, hk⟩ := hA.drops
      cases hd : dropWs (u :: r1) with
      | nil => rw [titleAt_nil hd] at h; cases h
      | cons o r2 =>
        rw [titleAt_cons hd ⟨u, r1, rfl, hw⟩] at h
        rw [hd] at hk
        obtain ⟨k2, hk2⟩ := hk.next
        split at h
        · obtain ⟨q, e⟩ := title_split _ _ _ _ h
          rw [e] at hk2
          exact Nat.le_trans (plain_len t) hk2.sizePart
        · cases h
/-- a table of texts -/
def DictIs (w : World) (o : Obj) (kvs : List (Str × Value)) (ds : List (PyData × PyData)) : Prop := Obj.IsDictOf (PySem.strKind PySem.Challenge.rw_ba0041_01.row.prog w) o kvs ∧ PyProof.V.FlatPairs PyData.str kvs ds
def LinkDict (w : World) (o : Obj) (g t : List U) : Prop :=
  (t = [] ∧ ∃ t2, DictIs w o [(Str.ofString "url", .str ⟨((plain g).flatMap pctc).toArray⟩ t2)] [(.str (Str.ofString "url"), .str ⟨((plain g).flatMap pctc).toArray⟩)]) ∨
  (t ≠ [] ∧ ∃ t2 t4, DictIs w o [(Str.ofString "url", .str ⟨((plain g).flatMap pctc).toArray⟩ t2), (Str.ofString "title", .str ⟨(plain t).toArray⟩ t4)]
    [(.str (Str.ofString "url"), .str ⟨((plain g).flatMap pctc).toArray⟩), (.str (Str.ofString "title"), .str ⟨(plain t).toArray⟩)])
theorem url_title : (Str.ofString "url" = Str.ofString "title") = False := by decide
theorem link_one {w : World} {o : Obj} {g : List U} {t1 t2 : Tok} (h1 : Obj.IsDictOf (PySem.strKind PySem.Challenge.rw_ba0041_01.row.prog w) o (strPairs [(.str (Str.ofString "url") t1, .str ⟨((plain g).flatMap pctc).toArray⟩ t2)]))
    (h2 : PyProof.V.FlatPairs PyData.str (strPairs [(.str (Str.ofString "url") t1, .str ⟨((plain g).flatMap pctc).toArray⟩ t2)]) (strData [(.str (Str.ofString "url") t1, .str ⟨((plain g).flatMap pctc).toArray⟩ t2)])) {t : List U} (ht : t = []) : LinkDict w o g t := .inl ⟨ht, _, h1, h2⟩
theorem link_two {w : World} {o : Obj} {g t : List U} {t1 t2 t4 : Tok} (h1 : Obj.IsDictOf (PySem.strKind PySem.Challenge.rw_ba0041_01.row.prog w) o (stored (strPairs [(.str (Str.ofString "url") t1, .str ⟨((plain g).flatMap pctc).toArray⟩ t2)]) (Str.ofString "title") (.str ⟨(plain t).toArray⟩ t4)))
    (h2 : PyProof.V.FlatPairs PyData.str (stored (strPairs [(.str (Str.ofString "url") t1, .str ⟨((plain g).flatMap pctc).toArray⟩ t2)]) (Str.ofString "title") (.str ⟨(plain t).toArray⟩ t4))
      (PyProof.V.putD (PyData.str (Str.ofString "title")) (PyData.str ⟨(plain t).toArray⟩) (strData [(.str (Str.ofString "url") t1, .str ⟨((plain g).flatMap pctc).toArray⟩ t2)]))) (ht : t ≠ []) : LinkDict w o g t := by
  have e1 : stored (strPairs [(.str (Str.ofString "url") t1, .str ⟨((plain g).flatMap pctc).toArray⟩ t2)]) (Str.ofString "title") (.str ⟨(plain t).toArray⟩ t4) = [(Str.ofString "url", .str ⟨((plain g).flatMap pctc).toArray⟩ t2), (Str.ofString "title", .str ⟨(plain t).toArray⟩ t4)] := by
    simp [stored, strPairs, url_title]
  rw [e1] at h1 h2
  exact .inr ⟨ht, _, _, h1, h2⟩
theorem plain_pos {t : List U} (h : 0 < (⟨(plain t).toArray⟩ : Str).cps.size) : t ≠ [] := by rintro rfl; simp [plain] at h
theorem plain_nil {t : List U} (h : ¬ 0 < (⟨(plain t).toArray⟩ : Str).cps.size) : t = [] := by
  cases t with
  | nil => rfl
  | cons u t => simp [plain] at h
theorem words_s_pwe_2 : True := by
  k_with "truthy str" => (k_here; (with_reducible show wpAny _ _ (truthy (Value.str (Str.mk (List.toArray _)) _)) _ _ _); refine truthy_c (by assumption) ?_)
  k_with "MINE pNone" => (
    rename News h₀ L _ _ => N15
    refine hret _ [_] _ _ _ (by assumption) (by first | exact N15 | exact drop1 N15 | exact drop2 N15) hT10 (fun q hq p hp => by rw [List.mem_singleton.mp hp]; exact l15 q (List.mem_append_left _ hq)) (fun p hp => by rw [List.mem_singleton.mp hp]; exact hT10.lt l15) ⟨_, rfl, ?_⟩
    rw [eR]
    exact ⟨_, rfl⟩)
  k_with "MINE pSome" => (
    rename News h₀ L _ _ => N15
    rename (_ < _ ∧ AllLt _ (news ++ T12)) => l16
    rename (∀ p ∈ news ++ T12, p.1 < _) => l17
    have l18 := ktn_ltOf l16.2
    refine hret _ [_, _] T12 _ _ (by assumption) (by first | exact N15 | (intro q hq; exact N15 q (by assumption))) hT12 (fun q hq p hp => ?_) (fun p hp => ?_) ⟨_, rfl, ?_⟩
    · rcases List.mem_cons.mp hp with rfl | hp
      · exact l18 q (List.mem_append_left _ hq)
      · rw [List.mem_singleton.mp hp]; exact l17 q (List.mem_append_left _ hq)
    · rcases List.mem_cons.mp hp with rfl | hp
      · exact hT12.lt l18
      · rw [List.mem_singleton.mp hp]; exact hT12.lt l17
    rw [eR])
  k_with "MINE esc1" => (
    refine unstop ?_
    k_dflt (refine' SpecT.use (unesc_spec (hAg.alphaPart hal) (by have := hAg.sizePart; simp; omega) hAg.part) news T10 ?B ?F ?X ?N ?T ?hk ?hd ?hu ?hC ?hT ?h76 ?hsub ?_; walk_at "MINE room"; (case hC => k_asm); (case hT => exact hT10); (case h76 => exact h76); (case hsub => exact fun q hq => .tail _ hq))
    rintro r12 tl12 T12 h12 tk12 F12 N12 hT12 l13 z12 ⟨rfl, t12, rfl⟩
    simp only [List.nil_append, List.cons_append] at N12
    try k_fold
    k_steps
    refine unstop ?_
    k_dflt (refine' SpecOf.use (escape_spec (by have := plain_len g; have := hAg.sizePart; simp; omega) (plain_text hal hAg hg10).1 (plain_text hal hAg hg10).2) ?B ?F ?X ?N ?T ?hk ?hd ?hu ?_; walk_at "MINE room")
    rintro r13 tl13 h13 tk13 F13 N13 l14 ⟨rfl, t13, rfl⟩
    simp only [List.nil_append, List.cons_append] at N13
    try k_fold
    k_steps)
  exact True.intro
set_option maxHeartbeats 8000000 in
theorem pwe_spec {w : World} {p : Program} {loose : List Str} {mean : ExcName → Option Value} {mg mb : Str → Option Value} {src : Str} {st pt kt : Tok} {pos : Nat} {us : List U}
   (hA : At src pos us) (hsz20 : src.cps.size ≤ 20) (hal : Alpha src) (hnl : nls us ≤ 1) :
   SpecTK w p loose mean mg mb 113 5 [.str src st, .int pos pt] [(Str.ofString "max_nested_level", .int 20 kt)] (fun tl r => ∃ a, r = .ref a ∧ match read us with
     | none => ∃ v, tl = [(a, tupObj [.none, .none, v])]
     | some (g, t, rest) => ∃ (d : Addr) (od : Obj) (n : Nat) (t1 t2 : Tok), tl = [(a, tupObj [.ref d, .int n t1, .int n t2]), (d, od)] ∧ LinkDict w od g t ∧ At src n rest) := by
  unfold SpecTK
  k_fill
  intro dp un gd cn cs a ccd cl outer A₀ base h₀ L m news Tb s Q E B F X N T hk hd hu hC hT h76 hret
  have hsz : src.cps.size < 100 := by omega
  refine wpAny_call ?_
  k_dflt walk_at "MINE enter"
  k_steps
  refine unstop ?_
  k_dflt (refine' SpecK.use (href_spec hA hsz20 hal hnl) ?B ?F ?X ?N ?T ?hk ?hd ?hu ?_; walk_at "MINE room")
  rintro r9 tl9 h9 tk9 F9 N9 l9 ⟨a9, rfl, hm⟩
  cases hde : dest (dropWs us) with
  | none =>
    rw [hde] at hm
    dsimp only at hm
    obtain ⟨n9, t9, rfl⟩ := hm
    simp only [List.cons_append, List.nil_append] at N9
    have l10 : ∀ q ∈ news ++ Tb, q.1 < a9 := fun q hq => l9 q hq _ (.head _)
    try k_fold
    k_steps
    rename (_ ∧ AllLt _ (news ++ Tb)) => l13
    have l15 := ktn_ltOf l13.2
    have hT10 := hT
    have eR : read us = none := by unfold read; rw [hde]
    walk_at "MINE pNone"
  | some q =>
    obtain ⟨g, rest⟩ := q
    rw [hde] at hm
    dsimp only at hm
    obtain ⟨n9, t9, t9', rfl, hA9, hle9⟩ := hm
    obtain ⟨kg, bg, hAg, hng, hg10⟩ := dest_split hA hde
    simp only [List.cons_append, List.nil_append] at N9
    have l10 : ∀ q ∈ news ++ Tb, q.1 < a9 := fun q hq => l9 q hq _ (.head _)
    try k_fold
    k_steps
    refine unstop ?_
    k_dflt (refine' SpecT.use (title_spec hA9 hsz hal (by omega)) news Tb ?B ?F ?X ?N ?T ?hk ?hd ?hu ?hC ?hT ?h76 ?hsub ?_; walk_at "MINE room"; (case hC => k_asm); (case hT => exact hT); (case h76 => exact h76); (case hsub => exact fun q hq => .tail _ hq))
    rintro r10 tl10 T10 h10 tk10 F10 N10 hT10 l11 z10 ⟨a10, rfl, hm10⟩
    cases hti : titleAt rest with
    | none =>
      rw [hti] at hm10
      dsimp only at hm10
      subst hm10
      simp only [List.cons_append, List.nil_append] at N10
      try k_fold
      k_steps
      refine unstop ?_
      k_dflt (refine' SpecOf.use (skip2_spec hA9 hsz hal) ?B ?F ?X ?N ?T ?hk ?hd ?hu ?_; walk_at "MINE room")
      rintro r11 tl11 h11 tk11 F11 N11 l12 ⟨rfl, n11, t11, rfl, hA11, hle11⟩
      simp only [List.nil_append] at N11
      try k_fold
      have eB : ∀ e, ending (dropWs rest) [] = e → read us = e.map fun p => (g, p.1, p.2) := by
        intro e he
        unfold read
        rw [hde]
        dsimp only
        rw [behind_eq, hti]
        dsimp only
        rw [he]
      k_steps
      · have eR : read us = none := eB _ (hA11.ending_none (by intro hn; omega))
        rename (_ ∧ AllLt _ (news ++ T10)) => l13
        have l15 := ktn_ltOf l13.2
        walk_at "MINE pNone"
      · have eR : read us = none := eB _ (hA11.ending_none (by intro hn; omega))
        rename (_ ∧ AllLt _ (news ++ T10)) => l13
        have l15 := ktn_ltOf l13.2
        walk_at "MINE pNone"
      · obtain ⟨re, hre, hAe⟩ := hA11.ending_some (t := []) (by omega) (by omega)
        have eR := eB _ hre
        walk_at "MINE esc1"
        walk_at "MINE pSome"
        exact ⟨_, _, _, _, _, rfl, link_one (by assumption) (by assumption) rfl, hAe⟩
    | some q2 =>
      obtain ⟨tt, r3⟩ := q2
      rw [hti] at hm10
      dsimp only at hm10
      obtain ⟨n10, t10, t10', rfl, hA10, hlt10⟩ := hm10
      simp only [List.cons_append, List.nil_append] at N10
      have hn10 : ¬ ((n10 : Int) = 0) := by omega
      try k_fold
      k_steps
      rotate_left
      · exfalso; omega
      refine unstop ?_
      k_dflt (refine' SpecOf.use (skip2_spec hA10 hsz hal) ?B ?F ?X ?N ?T ?hk ?hd ?hu ?_; walk_at "MINE room")
      rintro r11 tl11 h11 tk11 F11 N11 l12 ⟨rfl, n11, t11, rfl, hA11, hle11⟩
      simp only [List.nil_append] at N11
      try k_fold
      have hpt : (⟨(plain tt).toArray⟩ : Str).cps.size < 1000 := by
        have := titleAt_len hA9 hti
        simp
        omega
      have eB : ∀ e, ending (dropWs r3) tt = e → read us = e.map fun p => (g, p.1, p.2) := by
        intro e he
        unfold read
        rw [hde]
        dsimp only
        rw [behind_eq, hti]
        dsimp only
        rw [he]
      k_steps
      · have eR : read us = none := eB _ (hA11.ending_none (by intro hn; omega))
        rename (_ ∧ AllLt _ (news ++ T10)) => l13
        have l15 := ktn_ltOf l13.2
        walk_at "MINE pNone"
      · have eR : read us = none := eB _ (hA11.ending_none (by intro hn; omega))
        rename (_ ∧ AllLt _ (news ++ T10)) => l13
        have l15 := ktn_ltOf l13.2
        walk_at "MINE pNone"
      · obtain ⟨re, hre, hAe⟩ := hA11.ending_some (t := tt) (by omega) (by omega)
        have eR := eB _ hre
        walk_at "MINE esc1"
        · walk_at "MINE pSome"
          exact ⟨_, _, _, _, _, rfl, link_two (by assumption) (by assumption) (plain_pos (by assumption)), hAe⟩
        · walk_at "MINE pSome"
          exact ⟨_, _, _, _, _, rfl, link_one (by assumption) (by assumption) (plain_nil (by assumption)), hAe⟩

theorem words_s_pl_1 : True := by
  k_with_none
  w_top off
  k_with "MINE ar" => (with_reducible first | assumption | decide | ((show @LT.lt Nat _ _ _); first | exact ar_n1 (by assumption) | exact ar_n2 (by assumption) | exact ar_n6 (by assumption) | exact ar_n12 (by assumption) | exact ar_n13 (by assumption) | exact ar_k1 (by assumption) | exact ar_k2 (by assumption) | exact ar_k3 (by assumption) | exact ar_k4 (by assumption) | exact ar_k8 (by assumption) | exact ar_m1 (by assumption) | exact ar_m2 (by assumption) | exact ar_m3 (by assumption) | exact ar_m4 (by assumption) | exact ar_m5 (by assumption) | exact ar_e4 (by assumption) | exact ar_e5 (by assumption) | exact ar_r1 (by assumption) | exact Nat.lt_succ_self _ | exact ar_r2 (by assumption) (by decide) | exact ar_r3 (by assumption) (by decide) | exact ar_n7 (by assumption) (by assumption) | exact ar_n8 (by assumption) (by assumption) | exact ar_n16 (by assumption) (by assumption) | exact ar_n20 (by assumption) (by assumption) | exact ar_n21 (by assumption) (by assumption) | exact ar_n23 (by assumption) (by assumption) | exact ar_n24 (by assumption) (by assumption) | exact ar_e17 (by assumption) (by assumption) | exact ar_e19 (by assumption) (by assumption) | exact ar_n14 (by assumption) (by assumption) (by assumption) | exact ar_n26 (by assumption) (by assumption) (by assumption) | exact ar_n27 (by assumption) (by assumption) (by assumption) | exact ar_n15 (by assumption) (by assumption) (by assumption) (by assumption) | exact ar_n22 (by assumption) (by assumption) (by assumption) (by assumption)) | ((show @LE.le Nat _ _ _); first | exact Nat.le_refl _ | exact Nat.le_add_right _ _ | exact ar_n3 (by assumption) | exact ar_n4 (by assumption) | exact ar_n5 (by assumption) | exact ar_k7 (by assumption) | exact ar_k10 (by assumption) | exact ar_k13 (by assumption) | exact ar_e1 (by assumption) | exact ar_e2 (by assumption) | exact ar_e3 (by assumption) | exact ar_e6 (by assumption) | exact ar_e7 (by assumption) | exact ar_e8 (by assumption) | exact ar_s1 (by assumption) | exact ar_w2 (by assumption) | exact ar_n25 (by assumption) | exact ar_n9 (by assumption) (by assumption) | exact ar_n17 (by assumption) (by assumption) | exact ar_n28 (by assumption) (by assumption) | exact ar_e9 (by assumption) (by assumption) | exact ar_e10 (by assumption) (by assumption) | exact ar_e18 (by assumption) (by assumption) | exact ar_s3 (by assumption) (by assumption) | exact ar_n10 (by assumption) (by assumption) (by assumption) | exact ar_n11 (by assumption) (by assumption) (by assumption)) | ((show @LT.lt Int _ _ _); first | exact ar_k9 (by assumption) | exact ar_n18 (by assumption) | exact ar_n19 (by assumption) (by assumption)) | ((show @LE.le Int _ _ _); first | exact Int.natCast_nonneg _) | ((show @Eq Nat _ _); first | exact ar_e11 (by assumption) | exact ar_e12 (by assumption) | exact ar_e13 (by assumption) | exact ar_e15 (by assumption) | exact ar_s2 (by assumption) | exact ar_s4 (by assumption) | exact ar_w6 (by assumption) (by assumption) | exact ar_nn (by assumption)) | ((show @Eq Int _ _); first | exact ar_i5 | exact ar_i6 | exact ar_i7 | exact ar_i8 (by assumption)) | ((show ¬ _); first | exact ar_k5 (by assumption) | exact ar_k6 (by assumption) | exact ar_k11 (by assumption) | exact ar_k12 (by assumption) | exact ar_k14 (by assumption) | exact ar_e14 (by assumption) | exact ar_e16 (by assumption) | exact ar_e20 (by assumption) | exact ar_q1 (by assumption) | exact ar_q2 (by assumption) | exact ar_q3 (by assumption) | exact ar_q4 (by assumption) | exact ar_q5 (by assumption) | exact ar_w7 (by assumption) | exact ar_w8 (by assumption) | exact ar_w14 (by assumption) | exact ar_w16 (by assumption) | exact ar_w18 (by assumption) | exact ar_w19 (by assumption) | exact ar_w20 (by assumption) | exact ar_o3 (by assumption) | exact ar_o4 (by assumption) | exact ar_d (by assumption) (by decide) | exact ar_l1 (by assumption) (by assumption) | exact ar_l2 (by assumption) (by assumption) | exact ar_l3 (by assumption) (by assumption) | exact ar_w17 (by assumption) (by assumption) | exact ar_lv (by assumption) (by assumption) (by assumption) | exact ar_nn2 (by assumption)) | ((show _ ∧ _); first | exact ar_w1 (by assumption) | exact ar_w10 (by assumption) | exact ar_w12 (by assumption) | exact ar_w13 (by assumption) | exact ar_o2 (by assumption) | exact ar_w4 (by assumption) (by assumption) | exact ar_i4 (by assumption) (by assumption)) | ((show _ ∨ _); first | exact ar_o1 (by assumption) | exact ar_w3 (by assumption) (by assumption) | exact ar_w5 (by assumption) (by assumption) | exact ar_w9 (by assumption) (by assumption) | exact ar_w11 (by assumption) (by assumption)) | ((show _ ↔ _); first | exact ar_z3 | exact ar_z4 | exact ar_z5) | ((show False); first | exact (ar_f1 (by assumption) (by assumption) (by assumption)).elim | exact (ar_f2 (by assumption) (by assumption) (by assumption)).elim | exact (ar_c1 (by assumption) (by assumption)).elim | exact (ar_c2 (by assumption) (by assumption)).elim | exact (ar_c3 (by assumption) (by assumption)).elim | exact (ar_c4 (by assumption) (by assumption)).elim | exact (ar_c5 (by assumption) (by assumption)).elim | exact (ar_c7 (by assumption) (by assumption)).elim | exact (ar_c8 (by assumption) (by assumption)).elim | exact (ar_c9 (by assumption) (by assumption)).elim | exact (ar_c10 (by assumption) (by assumption)).elim | exact (ar_c11 (by assumption) (by assumption)).elim | exact (ar_c12 (by assumption) (by assumption)).elim | exact (ar_c13 (by assumption) (by assumption)).elim | exact (ar_f3 (by assumption) (by assumption)).elim | exact (ar_f4 (by assumption) (by assumption)).elim | exact (ar_f5 (by assumption) (by assumption)).elim | exact (ar_f6 (by assumption) (by assumption)).elim | exact (ar_f7 (by assumption) (by assumption)).elim | exact (ar_f8 (by assumption) (by assumption)).elim | exact (ar_f9 (by assumption) (by assumption)).elim | exact (ar_f10 (by assumption) (by assumption)).elim) | ((show @Eq _ _ _); first | exact (ar_f1 (by assumption) (by assumption) (by assumption)).elim | exact (ar_f2 (by assumption) (by assumption) (by assumption)).elim | exact (ar_c1 (by assumption) (by assumption)).elim | exact (ar_c2 (by assumption) (by assumption)).elim | exact (ar_c3 (by assumption) (by assumption)).elim | exact (ar_c4 (by assumption) (by assumption)).elim | exact (ar_c5 (by assumption) (by assumption)).elim | exact (ar_c7 (by assumption) (by assumption)).elim | exact (ar_c8 (by assumption) (by assumption)).elim | exact (ar_c9 (by assumption) (by assumption)).elim | exact (ar_c10 (by assumption) (by assumption)).elim | exact (ar_c11 (by assumption) (by assumption)).elim | exact (ar_c12 (by assumption) (by assumption)).elim | exact (ar_c13 (by assumption) (by assumption)).elim | exact (ar_f3 (by assumption) (by assumption)).elim | exact (ar_f4 (by assumption) (by assumption)).elim | exact (ar_f5 (by assumption) (by assumption)).elim | exact (ar_f6 (by assumption) (by assumption)).elim | exact (ar_f7 (by assumption) (by assumption)).elim | exact (ar_f8 (by assumption) (by assumption)).elim | exact (ar_f9 (by assumption) (by assumption)).elim | exact (ar_f10 (by assumption) (by assumption)).elim) | (intro _; first | exact (ar_f1 (by assumption) (by assumption) (by assumption)).elim | exact (ar_f2 (by assumption) (by assumption) (by assumption)).elim | exact (ar_c1 (by assumption) (by assumption)).elim | exact (ar_c2 (by assumption) (by assumption)).elim | exact (ar_c3 (by assumption) (by assumption)).elim | exact (ar_c4 (by assumption) (by assumption)).elim | exact (ar_c5 (by assumption) (by assumption)).elim | exact (ar_c7 (by assumption) (by assumption)).elim | exact (ar_c8 (by assumption) (by assumption)).elim | exact (ar_c9 (by assumption) (by assumption)).elim | exact (ar_c10 (by assumption) (by assumption)).elim | exact (ar_c11 (by assumption) (by assumption)).elim | exact (ar_c12 (by assumption) (by assumption)).elim | exact (ar_c13 (by assumption) (by assumption)).elim | exact (ar_f3 (by assumption) (by assumption)).elim | exact (ar_f4 (by assumption) (by assumption)).elim | exact (ar_f5 (by assumption) (by assumption)).elim | exact (ar_f6 (by assumption) (by assumption)).elim | exact (ar_f7 (by assumption) (by assumption)).elim | exact (ar_f8 (by assumption) (by assumption)).elim | exact (ar_f9 (by assumption) (by assumption)).elim | exact (ar_f10 (by assumption) (by assumption)).elim) | exact ar_i1 (by assumption) | exact ar_i2 (by assumption) | exact ar_i3 (by assumption) (by decide))
  k_with "MINE enter" => (refine' code_def ?zqk1 ?zqk2 ?zqk3 ?zqk4 ?zqk5 ?zqkA ?zqkF ?zqkK ?zqk6 ?zqk7 ?zqk8 ?zqk9 ?zqkB ?_ ?zqc2 ?zqc3 ?zqc4 ?zqc5; (case zqkA => exact rfl); (case zqkF => exact rfl); (case zqkK => assumption); (case zqk1 => k_asm); (case zqk2 => k_asm); (case zqk3 => k_asm); (case zqk4 => k_asm); (case zqk5 => k_asm); (case zqk6 => k_is); (case zqk7 => k_is); (case zqk8 => ktr_room); (case zqk9 => first | exact BindsTo.of_eq rfl | exact binds_K (by k_in) rfl (by k_is) rfl rfl rfl); (case zqc5 => decide); (case zqkB => exact locs rfl); (case zqc2 => exact rfl); (case zqc3 => exact rfl); (case zqc4 => exact rfl); k_whole; intro g' L' h' FG' F' N' B' X' T'; (try dsimp only); (try k_lift B'); (try k_fold))
  k_with "exec While BoolOp cons nil" => (refine stop ?_)
  k_with "exec While Compare cons nil" => (refine stop ?_)
  k_with "MINE same" => (intro z h2 h3; simp only [List.forall_mem_cons, List.not_mem_nil, false_implies, implies_true, and_true, ne_eq] at h2; (try simp only [List.contains_cons, List.contains_nil, Bool.or_false, Bool.or_eq_false_iff, beq_eq_false_iff_ne, ne_eq] at h3); simp [kstB, h2, h3])
  k_with "KswPost" => (refine stop ?_)
  k_with "subscriptTail Name Name str int" => (k_here; (with_unfolding_all refine' item_a ?zqk0 ?zqk1 ?zqk2 ?zqk3 ?_; (case zqk0 => assumption); (case zqk1 => first | rfl | exact Int.natCast_add _ _ | omega); (case zqk2 => omega); (case zqk3 => omega)); intro hItem')
  k_with "subscriptTail Name BinOp str int" => (k_here; (with_unfolding_all refine' item_a (n := _ + 1) ?zqk0 ?zqk1 ?zqk2 ?zqk3 ?_; (case zqk0 => assumption); (case zqk1 => rfl); (case zqk2 => omega); (case zqk3 => omega)); intro hItem')
  k_with "compareOp Eq str str" => (k_here; first | refine eq_c lit_lt ?_ | refine eq_c lit_gt ?_ | refine eq_c lit_bs ?_ | refine eq_c lit_lp ?_ | refine eq_c lit_rp ?_ | refine eq_c lit_nl ?_ | refine eq_c lit_cr ?_ | refine eq_c lit_del ?_ | refine eq_c lit_nul ?_ | refine eq_c lit_blank ?_)
  k_with "compareOp In str str" => (k_here; first | refine in_c _ (in_ws _) ?_ | refine in_c _ (in_bt _) ?_ | refine in_c _ (in_nr _) ?_ | refine in_c _ (in_bad _) ?_ | refine in_c _ (in_punct _) ?_)
  k_with "call builtin:len" => (k_here; (with_reducible show wpAny _ _ (call (Value.builtin "len") [Value.str _ _]) _ _ _); refine len_c (by omega) ?_)
  k_with "call ref" => (k_here; (with_reducible show wpAny _ _ (call (Value.ref _) _ _) _ _ _); refine stop ?_)
  k_with "MINE room" => ((case B => k_asm); (case F => k_asm); (case X => k_asm); (case N => k_asm); (case T => k_asm); (case hk => first | exact rfl | assumption); (case hd => ktr_room); (case hu => ktr_units))
  k_with "getMethod ref" => (k_here; (with_reducible show wpAny _ _ (getMethod _ (Str.ofString "sub") _) _ _ _); k_dflt (refine' getM ?zqF ?zqX ?zql slot_sub type_sub ?_; (case zqF => k_asm); (case zqX => k_asm); (case zql => k_is)))
  k_with "getMethod ref" => (k_here; (with_reducible show wpAny _ _ (getMethod _ (Str.ofString "match") _) _ _ _); k_dflt (refine' getM ?zqF ?zqX ?zql slot_match type_match ?_; (case zqF => k_asm); (case zqX => k_asm); (case zql => k_is)))
  k_with "callWith ref" => (k_here; k_dflt (refine' callWith_K ?zqk1 ?zqk2 ?_; (case zqk1 => k_asm); (case zqk2 => k_is); k_whole))
  k_with "call builtin:list.append" => (k_here; k_dflt (refine' append_T ?zqF ?zqN ?zql ?zqz ?_; (case zqF => k_asm); (case zqN => k_asm); (case zql => assumption); (case zqz => assumption)); intro h' F' N'; (try k_sweep))
  k_with "getMethod ref" => (k_here; (with_reducible show wpAny _ _ (getMethod _ (Str.ofString "group") _) _ _ _); k_dflt (refine' getMm ?zqN ?zqm ?_; (case zqN => k_asm); (case zqm => k_mem)))
  k_with "call builtin:re.Match.group" => (k_here; k_dflt (refine' group_E ?zqz ?zqN ?zqm ?zqn ?_; (case zqN => k_asm); (case zqm => k_mem); (case zqn => k_mem); (case zqz => omega)); intro tk')
  k_with "truthy str" => (k_here; refine truthy_c (by simp [Array.size_extract]; omega) ?_)
  k_with "binaryOp Add str str" => (k_here; refine add_c (by simp [Array.size_extract, lit_nil]; omega) ?_; intro ta' tka')
  k_with "MINE lam" => (refine' kla_code ?zqk1 ?zqk2 ?zqk3 ?zqk4 ?zqk5 ?zqkA ?zqkF ?zqkK ?zqk6 ?zqk7 ?zqk8 ?zqk9 ?zqkB ?_ ?zqc2 ?zqc3 ?zqc4 ?zqc5; (case zqkA => exact rfl); (case zqkF => exact rfl); (case zqkK => exact rfl); (case zqk1 => k_asm); (case zqk2 => k_asm); (case zqk3 => k_asm); (case zqk4 => k_asm); (case zqk5 => k_asm); (case zqk6 => k_mem); (case zqk7 => exact codeRec_news (by k_asm) (by k_mem) (by assumption) (by assumption)); (case zqk8 => ktr_room); (case zqk9 => exact rfl); (case zqc5 => decide); (case zqkB => exact locs rfl); (case zqc2 => exact rfl); (case zqc3 => exact rfl); (case zqc4 => exact rfl); k_whole; intro g' L' h' FG' F' N' B' X' T'; (try dsimp only); (try k_lift B'); (try k_fold))
  k_with "compareOp NotIn str str" => (k_here; first | refine notin_c _ (in_ws _) ?_ | refine notin_c _ (in_bt _) ?_ | refine notin_c _ (in_nr _) ?_ | refine notin_c _ (in_bad _) ?_ | refine notin_c _ (in_punct _) ?_)
  k_with "ite" => (first | (with_reducible refine ite_ff9 ?_) | (with_reducible refine ite_tt9 ?_))
  k_with "call builtin:str.join" => (k_here; k_dflt (refine' join_c ?zqN ?zqm ?zqs ?zqz ?_; (case zqN => k_asm); (case zqm => k_mem); (case zqs => assumption); (case zqz => assumption)); intro tj' tkj')
  k_with "compareOp NotEq str str" => (k_here; first | refine ne_c lit_lt ?_ | refine ne_c lit_gt ?_ | refine ne_c lit_rp ?_ | refine ne_c lit_lp ?_)
  k_with "MINE enterK" => (refine' code_def ?zqk1 ?zqk2 ?zqk3 ?zqk4 ?zqk5 ?zqkA ?zqkF ?zqkK ?zqk6 ?zqk7 ?zqk8 ?zqk9 ?zqkB ?_ ?zqc2 ?zqc3 ?zqc4 ?zqc5; (case zqkA => exact rfl); (case zqkF => exact rfl); (case zqkK => assumption); (case zqk1 => k_asm); (case zqk2 => k_asm); (case zqk3 => k_asm); (case zqk4 => k_asm); (case zqk5 => k_asm); (case zqk6 => k_is); (case zqk7 => k_is); (case zqk8 => ktr_room); (case zqk9 => (refine' kp_binds ?zqkx ?zqke; (case zqkx => k_in); (case zqke => exact fun _ => rfl))); (case zqc5 => decide); (case zqkB => exact locs rfl); (case zqc2 => exact rfl); (case zqc3 => exact rfl); (case zqc4 => exact rfl); k_whole; intro g' L' h' FG' F' N' B' X' T'; (try dsimp only); (try k_lift B'); (try k_fold))
  exact True.intro
set_option maxHeartbeats 8000000 in
theorem pl_spec {w : World} {p : Program} {loose : List Str} {mean : ExcName → Option Value} {mg mb : Str → Option Value} {src : Str} {st pt : Tok} {pos : Nat} {us : List U}
   (hA : At src pos us) (hsz20 : src.cps.size ≤ 20) (hal : Alpha src) (hnl : nls us ≤ 1) :
   SpecT w p loose mean mg mb 105 6 [.str src st, .int pos pt] (fun tl r => ∃ a, r = .ref a ∧ match read us with
     | none => tl = [(a, tupObj [.none, .none])]
     | some (g, t, rest) => ∃ (d : Addr) (od : Obj) (n : Nat) (t1 : Tok), tl = [(a, tupObj [.ref d, .int n t1]), (d, od)] ∧ LinkDict w od g t ∧ At src n rest) := by
  unfold SpecT
  k_fill
  intro dp un gd cn cs a ccd cl outer A₀ base h₀ L m news Tb s Q E B F X N T hk hd hu hC hT h76 hret
  refine wpAny_call ?_
  k_dflt walk_at "MINE enterK"
  k_steps
  refine unstop ?_
  k_dflt (refine' SpecTK.use (pwe_spec hA hsz20 hal hnl) news Tb ?B ?F ?X ?N ?T ?hk ?hd ?hu ?hC ?hT ?h76 ?hsub ?_; walk_at "MINE room"; (case hC => k_asm); (case hT => exact hT); (case h76 => exact h76); (case hsub => exact fun q hq => hq))
  rintro r9 tl9 T9 h9 tk9 F9 N9 hT9 l9 z9 ⟨a9, rfl, hm⟩
  cases hre : read us with
  | none =>
    rw [hre] at hm
    dsimp only at hm
    obtain ⟨v9, rfl⟩ := hm
    simp only [List.cons_append, List.nil_append] at N9
    try k_fold
    k_steps
    rename News h₀ L _ _ => N15
    rename (_ < _ ∧ AllLt _ (news ++ T9)) => l16
    have l15 := ktn_ltOf l16.2
    refine hret _ [_] _ _ _ (by assumption) (drop1 N15) hT9 (fun q hq p hp => by rw [List.mem_singleton.mp hp]; exact l15 q (List.mem_append_left _ hq)) (fun p hp => by rw [List.mem_singleton.mp hp]; exact hT9.lt l15) ⟨_, rfl, ?_⟩
    rw [hre]
  | some q =>
    obtain ⟨g, t, rest⟩ := q
    rw [hre] at hm
    dsimp only at hm
    obtain ⟨d, od, n, t1, t2, rfl, hL, hAn⟩ := hm
    simp only [List.cons_append, List.nil_append] at N9
    try k_fold
    k_steps
    rename News h₀ L _ _ => N15
    rename (_ < _ ∧ _ < _ ∧ AllLt _ (news ++ T9)) => l16
    have l15 := ktn_ltOf l16.2.2
    have N16 := drop1 N15
    refine hret _ [_, _] _ _ _ (by assumption) N16 hT9 (fun q hq p hp => ?_) (fun p hp => ?_) ⟨_, rfl, ?_⟩
    · rcases List.mem_cons.mp hp with rfl | hp
      · exact l15 q (List.mem_append_left _ hq)
      · rw [List.mem_singleton.mp hp]; exact l9 q hq _ (.tail _ (.head _))
    · rcases List.mem_cons.mp hp with rfl | hp
      · exact hT9.lt l15
      · rw [List.mem_singleton.mp hp]; exact z9 _ (.tail _ (.head _))
    rw [hre]
    exact ⟨_, _, _, _, rfl, hL, hAn⟩

theorem words_lst_1 : True := by
  k_with_none
  w_top off
  k_with "MINE ar" => (with_reducible first | assumption | decide | ((show @LT.lt Nat _ _ _); first | exact ar_n1 (by assumption) | exact ar_n2 (by assumption) | exact ar_n6 (by assumption) | exact ar_n12 (by assumption) | exact ar_n13 (by assumption) | exact ar_k1 (by assumption) | exact ar_k2 (by assumption) | exact ar_k3 (by assumption) | exact ar_k4 (by assumption) | exact ar_k8 (by assumption) | exact ar_m1 (by assumption) | exact ar_m2 (by assumption) | exact ar_m3 (by assumption) | exact ar_m4 (by assumption) | exact ar_m5 (by assumption) | exact ar_e4 (by assumption) | exact ar_e5 (by assumption) | exact ar_r1 (by assumption) | exact Nat.lt_succ_self _ | exact ar_r2 (by assumption) (by decide) | exact ar_r3 (by assumption) (by decide) | exact ar_n7 (by assumption) (by assumption) | exact ar_n8 (by assumption) (by assumption) | exact ar_n16 (by assumption) (by assumption) | exact ar_n20 (by assumption) (by assumption) | exact ar_n21 (by assumption) (by assumption) | exact ar_n23 (by assumption) (by assumption) | exact ar_n24 (by assumption) (by assumption) | exact ar_e17 (by assumption) (by assumption) | exact ar_e19 (by assumption) (by assumption) | exact ar_n14 (by assumption) (by assumption) (by assumption) | exact ar_n26 (by assumption) (by assumption) (by assumption) | exact ar_n27 (by assumption) (by assumption) (by assumption) | exact ar_n15 (by assumption) (by assumption) (by assumption) (by assumption) | exact ar_n22 (by assumption) (by assumption) (by assumption) (by assumption)) | ((show @LE.le Nat _ _ _); first | exact Nat.le_refl _ | exact Nat.le_add_right _ _ | exact ar_n3 (by assumption) | exact ar_n4 (by assumption) | exact ar_n5 (by assumption) | exact ar_k7 (by assumption) | exact ar_k10 (by assumption) | exact ar_k13 (by assumption) | exact ar_e1 (by assumption) | exact ar_e2 (by assumption) | exact ar_e3 (by assumption) | exact ar_e6 (by assumption) | exact ar_e7 (by assumption) | exact ar_e8 (by assumption) | exact ar_s1 (by assumption) | exact ar_w2 (by assumption) | exact ar_n25 (by assumption) | exact ar_n9 (by assumption) (by assumption) | exact ar_n17 (by assumption) (by assumption) | exact ar_n28 (by assumption) (by assumption) | exact ar_e9 (by assumption) (by assumption) | exact ar_e10 (by assumption) (by assumption) | exact ar_e18 (by assumption) (by assumption) | exact ar_s3 (by assumption) (by assumption) | exact ar_n10 (by assumption) (by assumption) (by assumption) | exact ar_n11 (by assumption) (by assumption) (by assumption)) | ((show @LT.lt Int _ _ _); first | exact ar_k9 (by assumption) | exact ar_n18 (by assumption) | exact ar_n19 (by assumption) (by assumption)) | ((show @LE.le Int _ _ _); first | exact Int.natCast_nonneg _) | ((show @Eq Nat _ _); first | exact ar_e11 (by assumption) | exact ar_e12 (by assumption) | exact ar_e13 (by assumption) | exact ar_e15 (by assumption) | exact ar_s2 (by assumption) | exact ar_s4 (by assumption) | exact ar_w6 (by assumption) (by assumption) | exact ar_nn (by assumption)) | ((show @Eq Int _ _); first | exact ar_i5 | exact ar_i6 | exact ar_i7 | exact ar_i8 (by assumption)) | ((show ¬ _); first | exact ar_k5 (by assumption) | exact ar_k6 (by assumption) | exact ar_k11 (by assumption) | exact ar_k12 (by assumption) | exact ar_k14 (by assumption) | exact ar_e14 (by assumption) | exact ar_e16 (by assumption) | exact ar_e20 (by assumption) | exact ar_q1 (by assumption) | exact ar_q2 (by assumption) | exact ar_q3 (by assumption) | exact ar_q4 (by assumption) | exact ar_q5 (by assumption) | exact ar_w7 (by assumption) | exact ar_w8 (by assumption) | exact ar_w14 (by assumption) | exact ar_w16 (by assumption) | exact ar_w18 (by assumption) | exact ar_w19 (by assumption) | exact ar_w20 (by assumption) | exact ar_o3 (by assumption) | exact ar_o4 (by assumption) | exact ar_d (by assumption) (by decide) | exact ar_l1 (by assumption) (by assumption) | exact ar_l2 (by assumption) (by assumption) | exact ar_l3 (by assumption) (by assumption) | exact ar_w17 (by assumption) (by assumption) | exact ar_lv (by assumption) (by assumption) (by assumption) | exact ar_nn2 (by assumption)) | ((show _ ∧ _); first | exact ar_w1 (by assumption) | exact ar_w10 (by assumption) | exact ar_w12 (by assumption) | exact ar_w13 (by assumption) | exact ar_o2 (by assumption) | exact ar_w4 (by assumption) (by assumption) | exact ar_i4 (by assumption) (by assumption)) | ((show _ ∨ _); first | exact ar_o1 (by assumption) | exact ar_w3 (by assumption) (by assumption) | exact ar_w5 (by assumption) (by assumption) | exact ar_w9 (by assumption) (by assumption) | exact ar_w11 (by assumption) (by assumption)) | ((show _ ↔ _); first | exact ar_z3 | exact ar_z4 | exact ar_z5) | ((show False); first | exact (ar_f1 (by assumption) (by assumption) (by assumption)).elim | exact (ar_f2 (by assumption) (by assumption) (by assumption)).elim | exact (ar_c1 (by assumption) (by assumption)).elim | exact (ar_c2 (by assumption) (by assumption)).elim | exact (ar_c3 (by assumption) (by assumption)).elim | exact (ar_c4 (by assumption) (by assumption)).elim | exact (ar_c5 (by assumption) (by assumption)).elim | exact (ar_c7 (by assumption) (by assumption)).elim | exact (ar_c8 (by assumption) (by assumption)).elim | exact (ar_c9 (by assumption) (by assumption)).elim | exact (ar_c10 (by assumption) (by assumption)).elim | exact (ar_c11 (by assumption) (by assumption)).elim | exact (ar_c12 (by assumption) (by assumption)).elim | exact (ar_c13 (by assumption) (by assumption)).elim | exact (ar_f3 (by assumption) (by assumption)).elim | exact (ar_f4 (by assumption) (by assumption)).elim | exact (ar_f5 (by assumption) (by assumption)).elim | exact (ar_f6 (by assumption) (by assumption)).elim | exact (ar_f7 (by assumption) (by assumption)).elim | exact (ar_f8 (by assumption) (by assumption)).elim | exact (ar_f9 (by assumption) (by assumption)).elim | exact (ar_f10 (by assumption) (by assumption)).elim) | ((show @Eq _ _ _); first | exact (ar_f1 (by assumption) (by assumption) (by assumption)).elim | exact (ar_f2 (by assumption) (by assumption) (by assumption)).elim | exact (ar_c1 (by assumption) (by assumption)).elim | exact (ar_c2 (by assumption) (by assumption)).elim | exact (ar_c3 (by assumption) (by assumption)).elim | exact (ar_c4 (by assumption) (by assumption)).elim | exact (ar_c5 (by assumption) (by assumption)).elim | exact (ar_c7 (by assumption) (by assumption)).elim | exact (ar_c8 (by assumption) (by assumption)).elim | exact (ar_c9 (by assumption) (by assumption)).elim | exact (ar_c10 (by assumption) (by assumption)).elim | exact (ar_c11 (by assumption) (by assumption)).elim | exact (ar_c12 (by assumption) (by assumption)).elim | exact (ar_c13 (by assumption) (by assumption)).elim | exact (ar_f3 (by assumption) (by assumption)).elim | exact (ar_f4 (by assumption) (by assumption)).elim | exact (ar_f5 (by assumption) (by assumption)).elim | exact (ar_f6 (by assumption) (by assumption)).elim | exact (ar_f7 (by assumption) (by assumption)).elim | exact (ar_f8 (by assumption) (by assumption)).elim | exact (ar_f9 (by assumption) (by assumption)).elim | exact (ar_f10 (by assumption) (by assumption)).elim) | (intro _; first | exact (ar_f1 (by assumption) (by assumption) (by assumption)).elim | exact (ar_f2 (by assumption) (by assumption) (by assumption)).elim | exact (ar_c1 (by assumption) (by assumption)).elim | exact (ar_c2 (by assumption) (by assumption)).elim | exact (ar_c3 (by assumption) (by assumption)).elim | exact (ar_c4 (by assumption) (by assumption)).elim | exact (ar_c5 (by assumption) (by assumption)).elim | exact (ar_c7 (by assumption) (by assumption)).elim | exact (ar_c8 (by assumption) (by assumption)).elim | exact (ar_c9 (by assumption) (by assumption)).elim | exact (ar_c10 (by assumption) (by assumption)).elim | exact (ar_c11 (by assumption) (by assumption)).elim | exact (ar_c12 (by assumption) (by assumption)).elim | exact (ar_c13 (by assumption) (by assumption)).elim | exact (ar_f3 (by assumption) (by assumption)).elim | exact (ar_f4 (by assumption) (by assumption)).elim | exact (ar_f5 (by assumption) (by assumption)).elim | exact (ar_f6 (by assumption) (by assumption)).elim | exact (ar_f7 (by assumption) (by assumption)).elim | exact (ar_f8 (by assumption) (by assumption)).elim | exact (ar_f9 (by assumption) (by assumption)).elim | exact (ar_f10 (by assumption) (by assumption)).elim) | exact ar_i1 (by assumption) | exact ar_i2 (by assumption) | exact ar_i3 (by assumption) (by decide))
  k_with "MINE enter" => (refine' code_def ?zqk1 ?zqk2 ?zqk3 ?zqk4 ?zqk5 ?zqkA ?zqkF ?zqkK ?zqk6 ?zqk7 ?zqk8 ?zqk9 ?zqkB ?_ ?zqc2 ?zqc3 ?zqc4 ?zqc5; (case zqkA => exact rfl); (case zqkF => exact rfl); (case zqkK => assumption); (case zqk1 => k_asm); (case zqk2 => k_asm); (case zqk3 => k_asm); (case zqk4 => k_asm); (case zqk5 => k_asm); (case zqk6 => k_is); (case zqk7 => k_is); (case zqk8 => ktr_room); (case zqk9 => first | exact BindsTo.of_eq rfl | exact binds_K (by k_in) rfl (by k_is) rfl rfl rfl); (case zqc5 => decide); (case zqkB => exact locs rfl); (case zqc2 => exact rfl); (case zqc3 => exact rfl); (case zqc4 => exact rfl); k_whole; intro g' L' h' FG' F' N' B' X' T'; (try dsimp only); (try k_lift B'); (try k_fold))
  k_with "exec While BoolOp cons nil" => (refine stop ?_)
  k_with "exec While Compare cons nil" => (refine stop ?_)
  k_with "MINE same" => (intro z h2 h3; simp only [List.forall_mem_cons, List.not_mem_nil, false_implies, implies_true, and_true, ne_eq] at h2; (try simp only [List.contains_cons, List.contains_nil, Bool.or_false, Bool.or_eq_false_iff, beq_eq_false_iff_ne, ne_eq] at h3); simp [kstB, h2, h3])
  k_with "KswPost" => (refine stop ?_)
  k_with "subscriptTail Name Name str int" => (k_here; (with_unfolding_all refine' item_a ?zqk0 ?zqk1 ?zqk2 ?zqk3 ?_; (case zqk0 => assumption); (case zqk1 => first | rfl | exact Int.natCast_add _ _ | omega); (case zqk2 => omega); (case zqk3 => omega)); intro hItem')
  k_with "subscriptTail Name BinOp str int" => (k_here; (with_unfolding_all refine' item_a (n := _ + 1) ?zqk0 ?zqk1 ?zqk2 ?zqk3 ?_; (case zqk0 => assumption); (case zqk1 => rfl); (case zqk2 => omega); (case zqk3 => omega)); intro hItem')
  k_with "compareOp Eq str str" => (k_here; first | refine eq_c lit_lt ?_ | refine eq_c lit_gt ?_ | refine eq_c lit_bs ?_ | refine eq_c lit_lp ?_ | refine eq_c lit_rp ?_ | refine eq_c lit_nl ?_ | refine eq_c lit_cr ?_ | refine eq_c lit_del ?_ | refine eq_c lit_nul ?_ | refine eq_c lit_blank ?_)
  k_with "compareOp In str str" => (k_here; first | refine in_c _ (in_ws _) ?_ | refine in_c _ (in_bt _) ?_ | refine in_c _ (in_nr _) ?_ | refine in_c _ (in_bad _) ?_ | refine in_c _ (in_punct _) ?_)
  k_with "call builtin:len" => (k_here; (with_reducible show wpAny _ _ (call (Value.builtin "len") [Value.str _ _]) _ _ _); refine len_c (by omega) ?_)
  k_with "call ref" => (k_here; (with_reducible show wpAny _ _ (call (Value.ref _) _ _) _ _ _); refine stop ?_)
  k_with "MINE room" => ((case B => k_asm); (case F => k_asm); (case X => k_asm); (case N => k_asm); (case T => k_asm); (case hk => first | exact rfl | assumption); (case hd => ktr_room); (case hu => ktr_units))
  k_with "getMethod ref" => (k_here; (with_reducible show wpAny _ _ (getMethod _ (Str.ofString "sub") _) _ _ _); k_dflt (refine' getM ?zqF ?zqX ?zql slot_sub type_sub ?_; (case zqF => k_asm); (case zqX => k_asm); (case zql => k_is)))
  k_with "getMethod ref" => (k_here; (with_reducible show wpAny _ _ (getMethod _ (Str.ofString "match") _) _ _ _); k_dflt (refine' getM ?zqF ?zqX ?zql slot_match type_match ?_; (case zqF => k_asm); (case zqX => k_asm); (case zql => k_is)))
  k_with "callWith ref" => (k_here; k_dflt (refine' callWith_K ?zqk1 ?zqk2 ?_; (case zqk1 => k_asm); (case zqk2 => k_is); k_whole))
  k_with "call builtin:list.append" => (k_here; k_dflt (refine' append_T ?zqF ?zqN ?zql ?zqz ?_; (case zqF => k_asm); (case zqN => k_asm); (case zql => assumption); (case zqz => assumption)); intro h' F' N'; (try k_sweep))
  k_with "getMethod ref" => (k_here; (with_reducible show wpAny _ _ (getMethod _ (Str.ofString "group") _) _ _ _); k_dflt (refine' getMm ?zqN ?zqm ?_; (case zqN => k_asm); (case zqm => k_mem)))
  k_with "call builtin:re.Match.group" => (k_here; k_dflt (refine' group_E ?zqz ?zqN ?zqm ?zqn ?_; (case zqN => k_asm); (case zqm => k_mem); (case zqn => k_mem); (case zqz => omega)); intro tk')
  k_with "truthy str" => (k_here; refine truthy_c (by simp [Array.size_extract]; omega) ?_)
  k_with "binaryOp Add str str" => (k_here; refine add_c (by simp [Array.size_extract, lit_nil]; omega) ?_; intro ta' tka')
  k_with "MINE lam" => (refine' kla_code ?zqk1 ?zqk2 ?zqk3 ?zqk4 ?zqk5 ?zqkA ?zqkF ?zqkK ?zqk6 ?zqk7 ?zqk8 ?zqk9 ?zqkB ?_ ?zqc2 ?zqc3 ?zqc4 ?zqc5; (case zqkA => exact rfl); (case zqkF => exact rfl); (case zqkK => exact rfl); (case zqk1 => k_asm); (case zqk2 => k_asm); (case zqk3 => k_asm); (case zqk4 => k_asm); (case zqk5 => k_asm); (case zqk6 => k_mem); (case zqk7 => exact codeRec_news (by k_asm) (by k_mem) (by assumption) (by assumption)); (case zqk8 => ktr_room); (case zqk9 => exact rfl); (case zqc5 => decide); (case zqkB => exact locs rfl); (case zqc2 => exact rfl); (case zqc3 => exact rfl); (case zqc4 => exact rfl); k_whole; intro g' L' h' FG' F' N' B' X' T'; (try dsimp only); (try k_lift B'); (try k_fold))
  k_with "compareOp NotIn str str" => (k_here; first | refine notin_c _ (in_ws _) ?_ | refine notin_c _ (in_bt _) ?_ | refine notin_c _ (in_nr _) ?_ | refine notin_c _ (in_bad _) ?_ | refine notin_c _ (in_punct _) ?_)
  k_with "ite" => (first | (with_reducible refine ite_ff9 ?_) | (with_reducible refine ite_tt9 ?_))
  k_with "call builtin:str.join" => (k_here; k_dflt (refine' join_c ?zqN ?zqm ?zqs ?zqz ?_; (case zqN => k_asm); (case zqm => k_mem); (case zqs => assumption); (case zqz => assumption)); intro tj' tkj')
  k_with "compareOp NotEq str str" => (k_here; first | refine ne_c lit_lt ?_ | refine ne_c lit_gt ?_ | refine ne_c lit_rp ?_ | refine ne_c lit_lp ?_)
  exact True.intro
/-! ## Lists of texts -/
theorem canS : ∀ ys : List Str, (∀ y ∈ ys, PyData.strOk y = true) → PyData.canLayAll0 (ys.map PyData.str) = true
  | [], _ => rfl
  | y :: r, h => by
    have h1 := h y (.head _)
    have h2 := canS r fun z hz => h z (.tail _ hz)
    simp [PyData.canLayAll0, PyData.canLay0, h1, h2]
theorem depS : ∀ ys : List Str, PyData.depthAll (ys.map PyData.str) = 0
  | [] => rfl
  | _ :: r => by simp [PyData.depthAll, PyData.depth, depS r]
theorem shapedS (ys : List Str) (h : ∀ y ∈ ys, PyData.strOk y = true) : SeqAt.shaped (.list (ys.map PyData.str)) = true := by
  simp [SeqAt.shaped, PyData.canLay0, PyData.depth, canS ys h, depS]
theorem eqvNil (ys : List Str) : PyData.eqv (.list (ys.map PyData.str)) (.list []) = decide (ys = []) := by
  cases ys with
  | nil => decide
  | cons y ys => simp [PyData.eqv, PyData.eqvAll]
theorem ne_nilS {prog : Program} {w : World} {A : Around} {E : Value → Shared → Prop} {s : Shared} {a b : Addr} {pcs : List Value} {ys : List Str} {Q : Value → Shared → Prop} (ha : s.heap.IsList a pcs.toArray) (hb : s.heap.IsList b ([] : List Value).toArray) (hs : StrsAre pcs ys) (hl : ∀ y ∈ ys, PyData.strOk y = true) (hu : A.units + 64 < cLine)
    (h : Q (.bool (decide (¬ ys = []))) s) : wpAny (model prog w) A (compareOp .NotEq (.ref a) (.ref b)) Q E s :=
  ne_dataH (reads_newData ha hs.carried) (reads_newData hb .nil) (shapedS _ hl) (by rfl) hu (by rw [eqvNil]; simpa using h)
theorem strs_last : ∀ {pcs : List Value} {xs : List Str} {y : Str}, StrsAre pcs (xs ++ [y]) → ∃ qs t, pcs = qs ++ [.str y t] ∧ StrsAre qs xs := by
  intro pcs xs y h
  induction xs generalizing pcs with
  | nil =>
    cases h with
    | cons _ t h =>
      cases h
      exact ⟨[], t, rfl, .nil⟩
  | cons x xs ih =>
    cases h with
    | cons _ t h =>
      obtain ⟨qs, t', rfl, hq⟩ := ih h
      exact ⟨.str x t :: qs, t', rfl, .cons _ _ hq⟩
def utext (u : U) : Str := ⟨u.chars.toArray⟩
theorem codes_split {src : Str} {pre post : List Int} {n : Nat} (e : PySem.W.KStt.codes src = pre ++ (n : Int) :: post) : src.cps.toList = pre.map Int.toNat ++ n :: post.map Int.toNat := by
  have h := congrArg (List.map Int.toNat) e
  unfold PySem.W.KStt.codes at h
  rw [List.map_map, List.map_append, List.map_cons] at h
  have h2 : src.cps.toList.map (Int.toNat ∘ fun (c : Nat) => (c : Int)) = src.cps.toList := by
    refine (List.map_congr_left (g := _root_.id) fun c _ => Int.toNat_natCast c).trans (List.map_id _)
  rw [h2] at h
  simpa using h
theorem chars_mem {u : U} {us : List U} (h : u ∈ us) : ∀ c ∈ u.chars, c ∈ flat us := by
  intro c hc
  exact List.mem_flatMap.mpr ⟨u, h, hc⟩
theorem utext_ok {cs : List Nat} (h : ∀ c ∈ cs, c < 1000) : ∀ y ∈ (tok cs).map utext, PyData.strOk y = true := by
  intro y hy
  obtain ⟨u, hu, rfl⟩ := List.mem_map.mp hy
  unfold PyData.strOk utext
  rw [Array.all_eq_true]
  intro i hi
  have hm : (⟨u.chars.toArray⟩ : Str).cps[i] ∈ u.chars := by simp
  have := chars_mem hu _ hm
  rw [tok_flat] at this
  have := h _ this
  simp
  simp at this
  omega
theorem alpha_lt {c : Nat} (h : alpha c) : c < 1000 := by rcases h with rfl | rfl | rfl | rfl | rfl | rfl | rfl | rfl | rfl | rfl | rfl <;> decide
theorem alpha_mem {src : Str} (h : Alpha src) : ∀ c ∈ src.cps.toList, alpha c := by
  intro c hc
  obtain ⟨i, hi, e⟩ := List.getElem_of_mem hc
  have := h i (by simpa using hi)
  rw [← e]
  simpa using this
/-- reading one sign more -/
theorem tok_snoc : ∀ (cs : List Nat) (d : Nat), (∃ us, tok cs = us ++ [⟨false, 92⟩] ∧ esc d = true ∧ tok (cs ++ [d]) = us ++ [⟨true, d⟩]) ∨ ((¬ ∃ us, tok cs = us ++ [⟨false, 92⟩] ∧ esc d = true) ∧ tok (cs ++ [d]) = tok cs ++ [⟨false, d⟩]) := by
  intro cs
  induction cs using tok.induct with
  | case1 => intro d; exact .inr ⟨by rintro ⟨us, h, _⟩; simp [tok] at h, rfl⟩
  | case2 c =>
    intro d
    by_cases h : c = 92 ∧ esc d = true
    · obtain ⟨rfl, h⟩ := h
      exact .inl ⟨[], rfl, h, by show tok [92, d] = _; rw [tok_esc h]; rfl⟩
    · refine .inr ⟨?_, ?_⟩
      · rintro ⟨us, h1, h2⟩
        have h1' : ([] : List U) ++ [⟨false, c⟩] = us ++ [⟨false, 92⟩] := h1
        have h3 := (List.append_inj' h1' rfl).2
        have h4 : c = 92 := congrArg U.c (List.cons.inj h3).1
        exact h ⟨h4, h2⟩
      · show tok [c, d] = _
        rw [tok_one (fun h1 d' hd' => by cases hd'; cases q : esc d with | false => rfl | true => exact absurd ⟨h1, q⟩ h)]
        rfl
  | case3 c e r hce ih =>
    intro d
    obtain ⟨rfl, he⟩ := hce
    have e1 : tok (92 :: e :: r) = ⟨true, e⟩ :: tok r := tok_esc he
    have e2 : tok (92 :: e :: r ++ [d]) = ⟨true, e⟩ :: tok (r ++ [d]) := tok_esc he
    rcases ih d with ⟨us, h1, h2, h3⟩ | ⟨h1, h2⟩
    · exact .inl ⟨⟨true, e⟩ :: us, by rw [e1, h1]; rfl, h2, by rw [e2, h3]; rfl⟩
    · refine .inr ⟨?_, by rw [e1, e2, h2]; rfl⟩
      rintro ⟨us, h3, h4⟩
      rw [e1] at h3
      cases us with
      | nil => cases h3
      | cons u us =>
        have h5 := (List.cons.inj h3).2
        exact h1 ⟨us, h5, h4⟩
  | case4 c e r hce ih =>
    intro d
    have hn : c = 92 → ∀ d', (e :: r).head? = some d' → esc d' = false := by
      intro h1 d' hd'
      cases hd'
      cases q : esc e with
      | false => rfl
      | true => exact absurd ⟨h1, q⟩ hce
    have e1 : tok (c :: e :: r) = ⟨false, c⟩ :: tok (e :: r) := tok_one hn
    have e2 : tok (c :: e :: r ++ [d]) = ⟨false, c⟩ :: tok (e :: r ++ [d]) := tok_one (by simpa using hn)
    rcases ih d with ⟨us, h1, h2, h3⟩ | ⟨h1, h2⟩
    · exact .inl ⟨⟨false, c⟩ :: us, by rw [e1, h1]; rfl, h2, by rw [e2, h3]; rfl⟩
    · refine .inr ⟨?_, by rw [e1, e2, h2]; rfl⟩
      rintro ⟨us, h3, h4⟩
      rw [e1] at h3
      cases us with
      | nil =>
        have h5 := (List.cons.inj h3).2
        have : flat (tok (e :: r)) = e :: r := tok_flat _
        rw [h5] at this
        cases this
      | cons u us =>
        have h5 := (List.cons.inj h3).2
        exact h1 ⟨us, h5, h4⟩
theorem tok_len : ∀ cs : List Nat, (tok cs).length ≤ cs.length := by
  intro cs
  induction cs using tok.induct with
  | case1 => exact Nat.le_refl _
  | case2 c => exact Nat.le_refl _
  | case3 c d r h ih => unfold tok; rw [if_pos h]; simp; omega
  | case4 c d r h ih => unfold tok; rw [if_neg h]; simp at ih ⊢; omega
theorem ne_nilS_snoc {prog : Program} {w : World} {A : Around} {E : Value → Shared → Prop} {s : Shared} {a b : Addr} {pcs : List Value} {ys : List Str} {y : Str} {Q : Value → Shared → Prop} (ha : s.heap.IsList a pcs.toArray) (hb : s.heap.IsList b ([] : List Value).toArray) (hs : StrsAre pcs (ys ++ [y])) (hl : ∀ z ∈ ys ++ [y], PyData.strOk z = true) (hu : A.units + 64 < cLine)
    (h : Q (.bool true) s) : wpAny (model prog w) A (compareOp .NotEq (.ref a) (.ref b)) Q E s :=
  ne_nilS ha hb hs hl hu (by simpa using h)

theorem words_lst2_1 : True := by
  k_with_none
  w_top off
  k_with "MINE ar" => (with_reducible first | assumption | decide | ((show @LT.lt Nat _ _ _); first | exact ar_n1 (by assumption) | exact ar_n2 (by assumption) | exact ar_n6 (by assumption) | exact ar_n12 (by assumption) | exact ar_n13 (by assumption) | exact ar_k1 (by assumption) | exact ar_k2 (by assumption) | exact ar_k3 (by assumption) | exact ar_k4 (by assumption) | exact ar_k8 (by assumption) | exact ar_m1 (by assumption) | exact ar_m2 (by assumption) | exact ar_m3 (by assumption) | exact ar_m4 (by assumption) | exact ar_m5 (by assumption) | exact ar_e4 (by assumption) | exact ar_e5 (by assumption) | exact ar_r1 (by assumption) | exact Nat.lt_succ_self _ | exact ar_r2 (by assumption) (by decide) | exact ar_r3 (by assumption) (by decide) | exact ar_n7 (by assumption) (by assumption) | exact ar_n8 (by assumption) (by assumption) | exact ar_n16 (by assumption) (by assumption) | exact ar_n20 (by assumption) (by assumption) | exact ar_n21 (by assumption) (by assumption) | exact ar_n23 (by assumption) (by assumption) | exact ar_n24 (by assumption) (by assumption) | exact ar_e17 (by assumption) (by assumption) | exact ar_e19 (by assumption) (by assumption) | exact ar_n14 (by assumption) (by assumption) (by assumption) | exact ar_n26 (by assumption) (by assumption) (by assumption) | exact ar_n27 (by assumption) (by assumption) (by assumption) | exact ar_n15 (by assumption) (by assumption) (by assumption) (by assumption) | exact ar_n22 (by assumption) (by assumption) (by assumption) (by assumption)) | ((show @LE.le Nat _ _ _); first | exact Nat.le_refl _ | exact Nat.le_add_right _ _ | exact ar_n3 (by assumption) | exact ar_n4 (by assumption) | exact ar_n5 (by assumption) | exact ar_k7 (by assumption) | exact ar_k10 (by assumption) | exact ar_k13 (by assumption) | exact ar_e1 (by assumption) | exact ar_e2 (by assumption) | exact ar_e3 (by assumption) | exact ar_e6 (by assumption) | exact ar_e7 (by assumption) | exact ar_e8 (by assumption) | exact ar_s1 (by assumption) | exact ar_w2 (by assumption) | exact ar_n25 (by assumption) | exact ar_n9 (by assumption) (by assumption) | exact ar_n17 (by assumption) (by assumption) | exact ar_n28 (by assumption) (by assumption) | exact ar_e9 (by assumption) (by assumption) | exact ar_e10 (by assumption) (by assumption) | exact ar_e18 (by assumption) (by assumption) | exact ar_s3 (by assumption) (by assumption) | exact ar_n10 (by assumption) (by assumption) (by assumption) | exact ar_n11 (by assumption) (by assumption) (by assumption)) | ((show @LT.lt Int _ _ _); first | exact ar_k9 (by assumption) | exact ar_n18 (by assumption) | exact ar_n19 (by assumption) (by assumption)) | ((show @LE.le Int _ _ _); first | exact Int.natCast_nonneg _) | ((show @Eq Nat _ _); first | exact ar_e11 (by assumption) | exact ar_e12 (by assumption) | exact ar_e13 (by assumption) | exact ar_e15 (by assumption) | exact ar_s2 (by assumption) | exact ar_s4 (by assumption) | exact ar_w6 (by assumption) (by assumption) | exact ar_nn (by assumption)) | ((show @Eq Int _ _); first | exact ar_i5 | exact ar_i6 | exact ar_i7 | exact ar_i8 (by assumption)) | ((show ¬ _); first | exact ar_k5 (by assumption) | exact ar_k6 (by assumption) | exact ar_k11 (by assumption) | exact ar_k12 (by assumption) | exact ar_k14 (by assumption) | exact ar_e14 (by assumption) | exact ar_e16 (by assumption) | exact ar_e20 (by assumption) | exact ar_q1 (by assumption) | exact ar_q2 (by assumption) | exact ar_q3 (by assumption) | exact ar_q4 (by assumption) | exact ar_q5 (by assumption) | exact ar_w7 (by assumption) | exact ar_w8 (by assumption) | exact ar_w14 (by assumption) | exact ar_w16 (by assumption) | exact ar_w18 (by assumption) | exact ar_w19 (by assumption) | exact ar_w20 (by assumption) | exact ar_o3 (by assumption) | exact ar_o4 (by assumption) | exact ar_d (by assumption) (by decide) | exact ar_l1 (by assumption) (by assumption) | exact ar_l2 (by assumption) (by assumption) | exact ar_l3 (by assumption) (by assumption) | exact ar_w17 (by assumption) (by assumption) | exact ar_lv (by assumption) (by assumption) (by assumption) | exact ar_nn2 (by assumption)) | ((show _ ∧ _); first | exact ar_w1 (by assumption) | exact ar_w10 (by assumption) | exact ar_w12 (by assumption) | exact ar_w13 (by assumption) | exact ar_o2 (by assumption) | exact ar_w4 (by assumption) (by assumption) | exact ar_i4 (by assumption) (by assumption)) | ((show _ ∨ _); first | exact ar_o1 (by assumption) | exact ar_w3 (by assumption) (by assumption) | exact ar_w5 (by assumption) (by assumption) | exact ar_w9 (by assumption) (by assumption) | exact ar_w11 (by assumption) (by assumption)) | ((show _ ↔ _); first | exact ar_z3 | exact ar_z4 | exact ar_z5) | ((show False); first | exact (ar_f1 (by assumption) (by assumption) (by assumption)).elim | exact (ar_f2 (by assumption) (by assumption) (by assumption)).elim | exact (ar_c1 (by assumption) (by assumption)).elim | exact (ar_c2 (by assumption) (by assumption)).elim | exact (ar_c3 (by assumption) (by assumption)).elim | exact (ar_c4 (by assumption) (by assumption)).elim | exact (ar_c5 (by assumption) (by assumption)).elim | exact (ar_c7 (by assumption) (by assumption)).elim | exact (ar_c8 (by assumption) (by assumption)).elim | exact (ar_c9 (by assumption) (by assumption)).elim | exact (ar_c10 (by assumption) (by assumption)).elim | exact (ar_c11 (by assumption) (by assumption)).elim | exact (ar_c12 (by assumption) (by assumption)).elim | exact (ar_c13 (by assumption) (by assumption)).elim | exact (ar_f3 (by assumption) (by assumption)).elim | exact (ar_f4 (by assumption) (by assumption)).elim | exact (ar_f5 (by assumption) (by assumption)).elim | exact (ar_f6 (by assumption) (by assumption)).elim | exact (ar_f7 (by assumption) (by assumption)).elim | exact (ar_f8 (by assumption) (by assumption)).elim | exact (ar_f9 (by assumption) (by assumption)).elim | exact (ar_f10 (by assumption) (by assumption)).elim) | ((show @Eq _ _ _); first | exact (ar_f1 (by assumption) (by assumption) (by assumption)).elim | exact (ar_f2 (by assumption) (by assumption) (by assumption)).elim | exact (ar_c1 (by assumption) (by assumption)).elim | exact (ar_c2 (by assumption) (by assumption)).elim | exact (ar_c3 (by assumption) (by assumption)).elim | exact (ar_c4 (by assumption) (by assumption)).elim | exact (ar_c5 (by assumption) (by assumption)).elim | exact (ar_c7 (by assumption) (by assumption)).elim | exact (ar_c8 (by assumption) (by assumption)).elim | exact (ar_c9 (by assumption) (by assumption)).elim | exact (ar_c10 (by assumption) (by assumption)).elim | exact (ar_c11 (by assumption) (by assumption)).elim | exact (ar_c12 (by assumption) (by assumption)).elim | exact (ar_c13 (by assumption) (by assumption)).elim | exact (ar_f3 (by assumption) (by assumption)).elim | exact (ar_f4 (by assumption) (by assumption)).elim | exact (ar_f5 (by assumption) (by assumption)).elim | exact (ar_f6 (by assumption) (by assumption)).elim | exact (ar_f7 (by assumption) (by assumption)).elim | exact (ar_f8 (by assumption) (by assumption)).elim | exact (ar_f9 (by assumption) (by assumption)).elim | exact (ar_f10 (by assumption) (by assumption)).elim) | (intro _; first | exact (ar_f1 (by assumption) (by assumption) (by assumption)).elim | exact (ar_f2 (by assumption) (by assumption) (by assumption)).elim | exact (ar_c1 (by assumption) (by assumption)).elim | exact (ar_c2 (by assumption) (by assumption)).elim | exact (ar_c3 (by assumption) (by assumption)).elim | exact (ar_c4 (by assumption) (by assumption)).elim | exact (ar_c5 (by assumption) (by assumption)).elim | exact (ar_c7 (by assumption) (by assumption)).elim | exact (ar_c8 (by assumption) (by assumption)).elim | exact (ar_c9 (by assumption) (by assumption)).elim | exact (ar_c10 (by assumption) (by assumption)).elim | exact (ar_c11 (by assumption) (by assumption)).elim | exact (ar_c12 (by assumption) (by assumption)).elim | exact (ar_c13 (by assumption) (by assumption)).elim | exact (ar_f3 (by assumption) (by assumption)).elim | exact (ar_f4 (by assumption) (by assumption)).elim | exact (ar_f5 (by assumption) (by assumption)).elim | exact (ar_f6 (by assumption) (by assumption)).elim | exact (ar_f7 (by assumption) (by assumption)).elim | exact (ar_f8 (by assumption) (by assumption)).elim | exact (ar_f9 (by assumption) (by assumption)).elim | exact (ar_f10 (by assumption) (by assumption)).elim) | exact ar_i1 (by assumption) | exact ar_i2 (by assumption) | exact ar_i3 (by assumption) (by decide))
  k_with "MINE enter" => (refine' code_def ?zqk1 ?zqk2 ?zqk3 ?zqk4 ?zqk5 ?zqkA ?zqkF ?zqkK ?zqk6 ?zqk7 ?zqk8 ?zqk9 ?zqkB ?_ ?zqc2 ?zqc3 ?zqc4 ?zqc5; (case zqkA => exact rfl); (case zqkF => exact rfl); (case zqkK => assumption); (case zqk1 => k_asm); (case zqk2 => k_asm); (case zqk3 => k_asm); (case zqk4 => k_asm); (case zqk5 => k_asm); (case zqk6 => k_is); (case zqk7 => k_is); (case zqk8 => ktr_room); (case zqk9 => first | exact BindsTo.of_eq rfl | exact binds_K (by k_in) rfl (by k_is) rfl rfl rfl); (case zqc5 => decide); (case zqkB => exact locs rfl); (case zqc2 => exact rfl); (case zqc3 => exact rfl); (case zqc4 => exact rfl); k_whole; intro g' L' h' FG' F' N' B' X' T'; (try dsimp only); (try k_lift B'); (try k_fold))
  k_with "exec While BoolOp cons nil" => (refine stop ?_)
  k_with "exec While Compare cons nil" => (refine stop ?_)
  k_with "MINE same" => (intro z h2 h3; simp only [List.forall_mem_cons, List.not_mem_nil, false_implies, implies_true, and_true, ne_eq] at h2; (try simp only [List.contains_cons, List.contains_nil, Bool.or_false, Bool.or_eq_false_iff, beq_eq_false_iff_ne, ne_eq] at h3); simp [kstB, h2, h3])
  k_with "KswPost" => (refine stop ?_)
  k_with "subscriptTail Name Name str int" => (k_here; (with_unfolding_all refine' item_a ?zqk0 ?zqk1 ?zqk2 ?zqk3 ?_; (case zqk0 => assumption); (case zqk1 => first | rfl | exact Int.natCast_add _ _ | omega); (case zqk2 => omega); (case zqk3 => omega)); intro hItem')
  k_with "subscriptTail Name BinOp str int" => (k_here; (with_unfolding_all refine' item_a (n := _ + 1) ?zqk0 ?zqk1 ?zqk2 ?zqk3 ?_; (case zqk0 => assumption); (case zqk1 => rfl); (case zqk2 => omega); (case zqk3 => omega)); intro hItem')
  k_with "compareOp Eq str str" => (k_here; first | refine eq_c lit_lt ?_ | refine eq_c lit_gt ?_ | refine eq_c lit_bs ?_ | refine eq_c lit_lp ?_ | refine eq_c lit_rp ?_ | refine eq_c lit_nl ?_ | refine eq_c lit_cr ?_ | refine eq_c lit_del ?_ | refine eq_c lit_nul ?_ | refine eq_c lit_blank ?_)
  k_with "compareOp In str str" => (k_here; first | refine in_c _ (in_ws _) ?_ | refine in_c _ (in_bt _) ?_ | refine in_c _ (in_nr _) ?_ | refine in_c _ (in_bad _) ?_ | refine in_c _ (in_punct _) ?_)
  k_with "call builtin:len" => (k_here; (with_reducible show wpAny _ _ (call (Value.builtin "len") [Value.str _ _]) _ _ _); refine len_c (by omega) ?_)
  k_with "call ref" => (k_here; (with_reducible show wpAny _ _ (call (Value.ref _) _ _) _ _ _); refine stop ?_)
  k_with "MINE room" => ((case B => k_asm); (case F => k_asm); (case X => k_asm); (case N => k_asm); (case T => k_asm); (case hk => first | exact rfl | assumption); (case hd => ktr_room); (case hu => ktr_units))
  k_with "getMethod ref" => (k_here; (with_reducible show wpAny _ _ (getMethod _ (Str.ofString "sub") _) _ _ _); k_dflt (refine' getM ?zqF ?zqX ?zql slot_sub type_sub ?_; (case zqF => k_asm); (case zqX => k_asm); (case zql => k_is)))
  k_with "getMethod ref" => (k_here; (with_reducible show wpAny _ _ (getMethod _ (Str.ofString "match") _) _ _ _); k_dflt (refine' getM ?zqF ?zqX ?zql slot_match type_match ?_; (case zqF => k_asm); (case zqX => k_asm); (case zql => k_is)))
  k_with "callWith ref" => (k_here; k_dflt (refine' callWith_K ?zqk1 ?zqk2 ?_; (case zqk1 => k_asm); (case zqk2 => k_is); k_whole))
  k_with "call builtin:list.append" => (k_here; k_dflt (refine' append_T ?zqF ?zqN ?zql ?zqz ?_; (case zqF => k_asm); (case zqN => k_asm); (case zql => assumption); (case zqz => assumption)); intro h' F' N'; (try k_sweep))
  k_with "getMethod ref" => (k_here; (with_reducible show wpAny _ _ (getMethod _ (Str.ofString "group") _) _ _ _); k_dflt (refine' getMm ?zqN ?zqm ?_; (case zqN => k_asm); (case zqm => k_mem)))
  k_with "call builtin:re.Match.group" => (k_here; k_dflt (refine' group_E ?zqz ?zqN ?zqm ?zqn ?_; (case zqN => k_asm); (case zqm => k_mem); (case zqn => k_mem); (case zqz => omega)); intro tk')
  k_with "truthy str" => (k_here; refine truthy_c (by simp [Array.size_extract]; omega) ?_)
  k_with "binaryOp Add str str" => (k_here; refine add_c (by simp [Array.size_extract, lit_nil]; omega) ?_; intro ta' tka')
  k_with "MINE lam" => (refine' kla_code ?zqk1 ?zqk2 ?zqk3 ?zqk4 ?zqk5 ?zqkA ?zqkF ?zqkK ?zqk6 ?zqk7 ?zqk8 ?zqk9 ?zqkB ?_ ?zqc2 ?zqc3 ?zqc4 ?zqc5; (case zqkA => exact rfl); (case zqkF => exact rfl); (case zqkK => exact rfl); (case zqk1 => k_asm); (case zqk2 => k_asm); (case zqk3 => k_asm); (case zqk4 => k_asm); (case zqk5 => k_asm); (case zqk6 => k_mem); (case zqk7 => exact codeRec_news (by k_asm) (by k_mem) (by assumption) (by assumption)); (case zqk8 => ktr_room); (case zqk9 => exact rfl); (case zqc5 => decide); (case zqkB => exact locs rfl); (case zqc2 => exact rfl); (case zqc3 => exact rfl); (case zqc4 => exact rfl); k_whole; intro g' L' h' FG' F' N' B' X' T'; (try dsimp only); (try k_lift B'); (try k_fold))
  k_with "compareOp NotIn str str" => (k_here; first | refine notin_c _ (in_ws _) ?_ | refine notin_c _ (in_bt _) ?_ | refine notin_c _ (in_nr _) ?_ | refine notin_c _ (in_bad _) ?_ | refine notin_c _ (in_punct _) ?_)
  k_with "ite" => (first | (with_reducible refine ite_ff9 ?_) | (with_reducible refine ite_tt9 ?_))
  k_with "call builtin:str.join" => (k_here; k_dflt (refine' join_c ?zqN ?zqm ?zqs ?zqz ?_; (case zqN => k_asm); (case zqm => k_mem); (case zqs => assumption); (case zqz => assumption)); intro tj' tkj')
  k_with "compareOp NotEq str str" => (k_here; first | refine ne_c lit_lt ?_ | refine ne_c lit_gt ?_ | refine ne_c lit_rp ?_ | refine ne_c lit_lp ?_)
  exact True.intro
theorem one_eq (c n : Nat) : ((⟨#[c]⟩ : Str) == ⟨#[n]⟩) = (c == n) := by
  by_cases h : c = n
  · subst h; simp
  · rw [show (c == n) = false from by simp [h]]; simp [h]
theorem setL_last {x v : Value} : ∀ qs : List Value, ki_setL (qs ++ [x]) qs.length v = some (qs ++ [v])
  | [] => rfl
  | q :: qs => by
    show (match ki_setL (qs ++ [x]) qs.length v with | some r => some (q :: r) | none => none) = _
    rw [setL_last qs]; rfl
section
variable {prog : Program} {w : World} {A : Around} {E : Value → Shared → Prop} {s : Shared}
theorem item_last {value slice : Expr} {a : Addr} {qs : List Value} {x : Value} {u : Tok} {Q : Value → Shared → Prop} (hl : s.heap.IsList a (qs ++ [x]).toArray) (h : Q x s)
    (hs : subscripted slice false (.ref a) (.int (-1) u) = operate [.ref a, .int (-1) u] (getItem (.ref a) (.int (-1) u)) := by with_unfolding_all rfl) (hg : ∀ r, letTemporaryGo value (.ref a) r = pure () := by intro _; with_unfolding_all rfl) :
    wpAny (model prog w) A (subscriptTail value slice (.ref a) (.int (-1) u)) Q E s :=
  subscriptTail_builtin hl.typeIs slot_list_getitem.lookup (wpAny_getItem_list_neg hl (by decide) (by simp; omega) (by decide) (by rw [show ((-1 : Int) + ((qs ++ [x]).toArray.size : Nat)).toNat = qs.length from by simp; omega]; simp) h) hs hg
theorem item_at {value slice : Expr} {a : Addr} {vs : List Value} {k : Nat} {x : Value} {u : Tok} {Q : Value → Shared → Prop} (hl : s.heap.IsList a vs.toArray) (hx : vs[k]? = some x) (hk : k < 1000) (h : Q x s)
    (hs : subscripted slice false (.ref a) (.int (k : Int) u) = operate [.ref a, .int (k : Int) u] (getItem (.ref a) (.int (k : Int) u)) := by with_unfolding_all rfl) (hg : ∀ r, letTemporaryGo value (.ref a) r = pure () := by intro _; with_unfolding_all rfl) :
    wpAny (model prog w) A (subscriptTail value slice (.ref a) (.int (k : Int) u)) Q E s :=
  item_listL hl (by omega) (by omega) (by simpa using hx) h hs hg
theorem eq_u {y : Str} {u : U} {n : Nat} {t1 t2 : Tok} {Q : Value → Shared → Prop} (hy : y = ⟨#[n]⟩) (h : Q (.bool (u.is n)) s) : wpAny (model prog w) A (compareOp .Eq (.str (utext u) t1) (.str y t2)) Q E s := by
  subst hy
  refine PyProof.Rows.eq_str ?_
  have e : (utext u == (⟨#[n]⟩ : Str)) = u.is n := by
    unfold utext U.chars U.is
    cases u with
    | mk e c =>
      cases e with
      | true => simp
      | false =>
        show ((⟨#[c]⟩ : Str) == ⟨#[n]⟩) = (c == n)
        exact one_eq c n
  rw [e]
  exact h
theorem ne_u {y : Str} {u : U} {n : Nat} {t1 t2 : Tok} {Q : Value → Shared → Prop} (hy : y = ⟨#[n]⟩) (h : Q (.bool (!u.is n)) s) : wpAny (model prog w) A (compareOp .NotEq (.str (utext u) t1) (.str y t2)) Q E s := by
  subst hy
  refine PyProof.Rows.ne_str ?_
  have e : (utext u != (⟨#[n]⟩ : Str)) = !u.is n := by
    unfold utext U.chars U.is
    cases u with
    | mk e c =>
      cases e with
      | true => simp [bne]
      | false =>
        show (!((⟨#[c]⟩ : Str) == ⟨#[n]⟩)) = !(c == n)
        rw [one_eq c n]
  rw [e]
  exact h
end
theorem set_last {prog : Program} {w : World} {A : Around} {E : Value → Shared → Prop} {s : Shared} {h₀ : Heap} {L l : Addr} {m : Str → Option Value} {led led' : List (Addr × Obj)} {qs : List Value} {n : Nat} {x v : Value} {t : Tok} {Q : Unit → Shared → Prop} (F : Fr h₀ L s.heap m) (N : News h₀ L s.heap led) (U : Upd l (listOf (qs ++ [x]).toArray n) (listOf (qs ++ [v]).toArray n) led led')
    (h : ∀ h', Fr h₀ L h' m → News h₀ L h' led' → Q () { s with heap := h' }) : wpAny (model prog w) A (setItem (.ref l) (.int (-1) t) v) Q E s := by
  refine ki_setNeg (j := qs.length) (q := qs ++ [v]) F N (by decide) (by decide) ?_ ?_ U h
  · simp [seqIndex?]; omega
  · rw [List.toList_toArray]; exact setL_last qs
theorem codes_map (src : Str) : (PySem.W.KStt.codes src).map Int.toNat = src.cps.toList := by
  unfold PySem.W.KStt.codes
  rw [List.map_map]
  exact (List.map_congr_left (g := _root_.id) fun c _ => Int.toNat_natCast c).trans (List.map_id _)
theorem drop_cons {us r : List U} {v : U} {k : Nat} (h : us.drop k = v :: r) : k < us.length ∧ us[k]? = some v ∧ us.drop (k + 1) = r := by
  have hk : k < us.length := by
    apply Nat.lt_of_not_le
    intro hc
    rw [List.drop_eq_nil_of_le hc] at h
    cases h
  rw [List.drop_eq_getElem_cons hk] at h
  have h1 := (List.cons.inj h).1
  have h2 := (List.cons.inj h).2
  exact ⟨hk, by rw [List.getElem?_eq_getElem hk, h1], h2⟩
theorem len_l {prog : Program} {w : World} {A : Around} {E : Value → Shared → Prop} {s : Shared} {a : Addr} {vs : List Value} {n : Nat} {Q : Value → Shared → Prop} (hl : s.heap.IsList a vs.toArray) (hn : vs.length = n) (hz : n < 1000) (h : Q (.int (n : Int) (s.toks + 1)) { s with toks := s.toks + 1 + 1 }) : wpAny (model prog w) A (call (.builtin "len") [.ref a]) Q E s := by
  subst hn
  refine len_list hl (by simp; omega) ?_
  simpa using h
/-- two roads that meet behind a statement -/
theorem cut {prog : Program} {w : World} {A : Around} {E : Value → Shared → Prop} {s : Shared} {p : Sem Flow} {Post : Flow → Shared → Prop} (R : Shared → Prop)
    (h : wpAny (model prog w) A p (fun f s' => match f with | .next => R s' | f => Post f s') E s) (k : ∀ s', R s' → Post .next s') : wpAny (model prog w) A p Post E s :=
  wpAny_mono h (fun f s' hf => by cases f <;> first | exact k _ hf | exact hf) fun _ _ e => e
theorem joinFr {h₀ h : Heap} {L : Addr} {m : Str → Option Value} {ps : List (Str × Value)} (F : Fr h₀ L h m) (hp : ∀ p ∈ ps, m p.1 = some p.2) : Fr h₀ L h (kstB m ps) := by
  have e : kstB m ps = m := by
    funext z
    exact kstB_eq hp fun _ => rfl
  rw [e]
  exact F

theorem words_lst3_1 : True := by
  k_with_none
  w_top off
  k_with "MINE ar" => (with_reducible first | assumption | decide | ((show @LT.lt Nat _ _ _); first | exact ar_n1 (by assumption) | exact ar_n2 (by assumption) | exact ar_n6 (by assumption) | exact ar_n12 (by assumption) | exact ar_n13 (by assumption) | exact ar_k1 (by assumption) | exact ar_k2 (by assumption) | exact ar_k3 (by assumption) | exact ar_k4 (by assumption) | exact ar_k8 (by assumption) | exact ar_m1 (by assumption) | exact ar_m2 (by assumption) | exact ar_m3 (by assumption) | exact ar_m4 (by assumption) | exact ar_m5 (by assumption) | exact ar_e4 (by assumption) | exact ar_e5 (by assumption) | exact ar_r1 (by assumption) | exact Nat.lt_succ_self _ | exact ar_r2 (by assumption) (by decide) | exact ar_r3 (by assumption) (by decide) | exact ar_n7 (by assumption) (by assumption) | exact ar_n8 (by assumption) (by assumption) | exact ar_n16 (by assumption) (by assumption) | exact ar_n20 (by assumption) (by assumption) | exact ar_n21 (by assumption) (by assumption) | exact ar_n23 (by assumption) (by assumption) | exact ar_n24 (by assumption) (by assumption) | exact ar_e17 (by assumption) (by assumption) | exact ar_e19 (by assumption) (by assumption) | exact ar_n14 (by assumption) (by assumption) (by assumption) | exact ar_n26 (by assumption) (by assumption) (by assumption) | exact ar_n27 (by assumption) (by assumption) (by assumption) | exact ar_n15 (by assumption) (by assumption) (by assumption) (by assumption) | exact ar_n22 (by assumption) (by assumption) (by assumption) (by assumption)) | ((show @LE.le Nat _ _ _); first | exact Nat.le_refl _ | exact Nat.le_add_right _ _ | exact ar_n3 (by assumption) | exact ar_n4 (by assumption) | exact ar_n5 (by assumption) | exact ar_k7 (by assumption) | exact ar_k10 (by assumption) | exact ar_k13 (by assumption) | exact ar_e1 (by assumption) | exact ar_e2 (by assumption) | exact ar_e3 (by assumption) | exact ar_e6 (by assumption) | exact ar_e7 (by assumption) | exact ar_e8 (by assumption) | exact ar_s1 (by assumption) | exact ar_w2 (by assumption) | exact ar_n25 (by assumption) | exact ar_n9 (by assumption) (by assumption) | exact ar_n17 (by assumption) (by assumption) | exact ar_n28 (by assumption) (by assumption) | exact ar_e9 (by assumption) (by assumption) | exact ar_e10 (by assumption) (by assumption) | exact ar_e18 (by assumption) (by assumption) | exact ar_s3 (by assumption) (by assumption) | exact ar_n10 (by assumption) (by assumption) (by assumption) | exact ar_n11 (by assumption) (by assumption) (by assumption)) | ((show @LT.lt Int _ _ _); first | exact ar_k9 (by assumption) | exact ar_n18 (by assumption) | exact ar_n19 (by assumption) (by assumption)) | ((show @LE.le Int _ _ _); first | exact Int.natCast_nonneg _) | ((show @Eq Nat _ _); first | exact ar_e11 (by assumption) | exact ar_e12 (by assumption) | exact ar_e13 (by assumption) | exact ar_e15 (by assumption) | exact ar_s2 (by assumption) | exact ar_s4 (by assumption) | exact ar_w6 (by assumption) (by assumption) | exact ar_nn (by assumption)) | ((show @Eq Int _ _); first | exact ar_i5 | exact ar_i6 | exact ar_i7 | exact ar_i8 (by assumption)) | ((show ¬ _); first | exact ar_k5 (by assumption) | exact ar_k6 (by assumption) | exact ar_k11 (by assumption) | exact ar_k12 (by assumption) | exact ar_k14 (by assumption) | exact ar_e14 (by assumption) | exact ar_e16 (by assumption) | exact ar_e20 (by assumption) | exact ar_q1 (by assumption) | exact ar_q2 (by assumption) | exact ar_q3 (by assumption) | exact ar_q4 (by assumption) | exact ar_q5 (by assumption) | exact ar_w7 (by assumption) | exact ar_w8 (by assumption) | exact ar_w14 (by assumption) | exact ar_w16 (by assumption) | exact ar_w18 (by assumption) | exact ar_w19 (by assumption) | exact ar_w20 (by assumption) | exact ar_o3 (by assumption) | exact ar_o4 (by assumption) | exact ar_d (by assumption) (by decide) | exact ar_l1 (by assumption) (by assumption) | exact ar_l2 (by assumption) (by assumption) | exact ar_l3 (by assumption) (by assumption) | exact ar_w17 (by assumption) (by assumption) | exact ar_lv (by assumption) (by assumption) (by assumption) | exact ar_nn2 (by assumption)) | ((show _ ∧ _); first | exact ar_w1 (by assumption) | exact ar_w10 (by assumption) | exact ar_w12 (by assumption) | exact ar_w13 (by assumption) | exact ar_o2 (by assumption) | exact ar_w4 (by assumption) (by assumption) | exact ar_i4 (by assumption) (by assumption)) | ((show _ ∨ _); first | exact ar_o1 (by assumption) | exact ar_w3 (by assumption) (by assumption) | exact ar_w5 (by assumption) (by assumption) | exact ar_w9 (by assumption) (by assumption) | exact ar_w11 (by assumption) (by assumption)) | ((show _ ↔ _); first | exact ar_z3 | exact ar_z4 | exact ar_z5) | ((show False); first | exact (ar_f1 (by assumption) (by assumption) (by assumption)).elim | exact (ar_f2 (by assumption) (by assumption) (by assumption)).elim | exact (ar_c1 (by assumption) (by assumption)).elim | exact (ar_c2 (by assumption) (by assumption)).elim | exact (ar_c3 (by assumption) (by assumption)).elim | exact (ar_c4 (by assumption) (by assumption)).elim | exact (ar_c5 (by assumption) (by assumption)).elim | exact (ar_c7 (by assumption) (by assumption)).elim | exact (ar_c8 (by assumption) (by assumption)).elim | exact (ar_c9 (by assumption) (by assumption)).elim | exact (ar_c10 (by assumption) (by assumption)).elim | exact (ar_c11 (by assumption) (by assumption)).elim | exact (ar_c12 (by assumption) (by assumption)).elim | exact (ar_c13 (by assumption) (by assumption)).elim | exact (ar_f3 (by assumption) (by assumption)).elim | exact (ar_f4 (by assumption) (by assumption)).elim | exact (ar_f5 (by assumption) (by assumption)).elim | exact (ar_f6 (by assumption) (by assumption)).elim | exact (ar_f7 (by assumption) (by assumption)).elim | exact (ar_f8 (by assumption) (by assumption)).elim | exact (ar_f9 (by assumption) (by assumption)).elim | exact (ar_f10 (by assumption) (by assumption)).elim) | ((show @Eq _ _ _); first | exact (ar_f1 (by assumption) (by assumption) (by assumption)).elim | exact (ar_f2 (by assumption) (by assumption) (by assumption)).elim | exact (ar_c1 (by assumption) (by assumption)).elim | exact (ar_c2 (by assumption) (by assumption)).elim | exact (ar_c3 (by assumption) (by assumption)).elim | exact (ar_c4 (by assumption) (by assumption)).elim | exact (ar_c5 (by assumption) (by assumption)).elim | exact (ar_c7 (by assumption) (by assumption)).elim | exact (ar_c8 (by assumption) (by assumption)).elim | exact (ar_c9 (by assumption) (by assumption)).elim | exact (ar_c10 (by assumption) (by assumption)).elim | exact (ar_c11 (by assumption) (by assumption)).elim | exact (ar_c12 (by assumption) (by assumption)).elim | exact (ar_c13 (by assumption) (by assumption)).elim | exact (ar_f3 (by assumption) (by assumption)).elim | exact (ar_f4 (by assumption) (by assumption)).elim | exact (ar_f5 (by assumption) (by assumption)).elim | exact (ar_f6 (by assumption) (by assumption)).elim | exact (ar_f7 (by assumption) (by assumption)).elim | exact (ar_f8 (by assumption) (by assumption)).elim | exact (ar_f9 (by assumption) (by assumption)).elim | exact (ar_f10 (by assumption) (by assumption)).elim) | (intro _; first | exact (ar_f1 (by assumption) (by assumption) (by assumption)).elim | exact (ar_f2 (by assumption) (by assumption) (by assumption)).elim | exact (ar_c1 (by assumption) (by assumption)).elim | exact (ar_c2 (by assumption) (by assumption)).elim | exact (ar_c3 (by assumption) (by assumption)).elim | exact (ar_c4 (by assumption) (by assumption)).elim | exact (ar_c5 (by assumption) (by assumption)).elim | exact (ar_c7 (by assumption) (by assumption)).elim | exact (ar_c8 (by assumption) (by assumption)).elim | exact (ar_c9 (by assumption) (by assumption)).elim | exact (ar_c10 (by assumption) (by assumption)).elim | exact (ar_c11 (by assumption) (by assumption)).elim | exact (ar_c12 (by assumption) (by assumption)).elim | exact (ar_c13 (by assumption) (by assumption)).elim | exact (ar_f3 (by assumption) (by assumption)).elim | exact (ar_f4 (by assumption) (by assumption)).elim | exact (ar_f5 (by assumption) (by assumption)).elim | exact (ar_f6 (by assumption) (by assumption)).elim | exact (ar_f7 (by assumption) (by assumption)).elim | exact (ar_f8 (by assumption) (by assumption)).elim | exact (ar_f9 (by assumption) (by assumption)).elim | exact (ar_f10 (by assumption) (by assumption)).elim) | exact ar_i1 (by assumption) | exact ar_i2 (by assumption) | exact ar_i3 (by assumption) (by decide))
  k_with "MINE enter" => (refine' code_def ?zqk1 ?zqk2 ?zqk3 ?zqk4 ?zqk5 ?zqkA ?zqkF ?zqkK ?zqk6 ?zqk7 ?zqk8 ?zqk9 ?zqkB ?_ ?zqc2 ?zqc3 ?zqc4 ?zqc5; (case zqkA => exact rfl); (case zqkF => exact rfl); (case zqkK => assumption); (case zqk1 => k_asm); (case zqk2 => k_asm); (case zqk3 => k_asm); (case zqk4 => k_asm); (case zqk5 => k_asm); (case zqk6 => k_is); (case zqk7 => k_is); (case zqk8 => ktr_room); (case zqk9 => first | exact BindsTo.of_eq rfl | exact binds_K (by k_in) rfl (by k_is) rfl rfl rfl); (case zqc5 => decide); (case zqkB => exact locs rfl); (case zqc2 => exact rfl); (case zqc3 => exact rfl); (case zqc4 => exact rfl); k_whole; intro g' L' h' FG' F' N' B' X' T'; (try dsimp only); (try k_lift B'); (try k_fold))
  k_with "exec While BoolOp cons nil" => (refine stop ?_)
  k_with "exec While Compare cons nil" => (refine stop ?_)
  k_with "MINE same" => (intro z h2 h3; simp only [List.forall_mem_cons, List.not_mem_nil, false_implies, implies_true, and_true, ne_eq] at h2; (try simp only [List.contains_cons, List.contains_nil, Bool.or_false, Bool.or_eq_false_iff, beq_eq_false_iff_ne, ne_eq] at h3); simp [kstB, h2, h3])
  k_with "KswPost" => (refine stop ?_)
  k_with "subscriptTail Name Name str int" => (k_here; (with_unfolding_all refine' item_a ?zqk0 ?zqk1 ?zqk2 ?zqk3 ?_; (case zqk0 => assumption); (case zqk1 => first | rfl | exact Int.natCast_add _ _ | omega); (case zqk2 => omega); (case zqk3 => omega)); intro hItem')
  k_with "subscriptTail Name BinOp str int" => (k_here; (with_unfolding_all refine' item_a (n := _ + 1) ?zqk0 ?zqk1 ?zqk2 ?zqk3 ?_; (case zqk0 => assumption); (case zqk1 => rfl); (case zqk2 => omega); (case zqk3 => omega)); intro hItem')
  k_with "compareOp Eq str str" => (k_here; first | refine eq_c lit_lt ?_ | refine eq_c lit_gt ?_ | refine eq_c lit_bs ?_ | refine eq_c lit_lp ?_ | refine eq_c lit_rp ?_ | refine eq_c lit_nl ?_ | refine eq_c lit_cr ?_ | refine eq_c lit_del ?_ | refine eq_c lit_nul ?_ | refine eq_c lit_blank ?_)
  k_with "compareOp In str str" => (k_here; first | refine in_c _ (in_ws _) ?_ | refine in_c _ (in_bt _) ?_ | refine in_c _ (in_nr _) ?_ | refine in_c _ (in_bad _) ?_ | refine in_c _ (in_punct _) ?_)
  k_with "call builtin:len" => (k_here; (with_reducible show wpAny _ _ (call (Value.builtin "len") [Value.str _ _]) _ _ _); refine len_c (by omega) ?_)
  k_with "call ref" => (k_here; (with_reducible show wpAny _ _ (call (Value.ref _) _ _) _ _ _); refine stop ?_)
  k_with "MINE room" => ((case B => k_asm); (case F => k_asm); (case X => k_asm); (case N => k_asm); (case T => k_asm); (case hk => first | exact rfl | assumption); (case hd => ktr_room); (case hu => ktr_units))
  k_with "getMethod ref" => (k_here; (with_reducible show wpAny _ _ (getMethod _ (Str.ofString "sub") _) _ _ _); k_dflt (refine' getM ?zqF ?zqX ?zql slot_sub type_sub ?_; (case zqF => k_asm); (case zqX => k_asm); (case zql => k_is)))
  k_with "getMethod ref" => (k_here; (with_reducible show wpAny _ _ (getMethod _ (Str.ofString "match") _) _ _ _); k_dflt (refine' getM ?zqF ?zqX ?zql slot_match type_match ?_; (case zqF => k_asm); (case zqX => k_asm); (case zql => k_is)))
  k_with "callWith ref" => (k_here; k_dflt (refine' callWith_K ?zqk1 ?zqk2 ?_; (case zqk1 => k_asm); (case zqk2 => k_is); k_whole))
  k_with "call builtin:list.append" => (k_here; k_dflt (refine' append_T ?zqF ?zqN ?zql ?zqz ?_; (case zqF => k_asm); (case zqN => k_asm); (case zql => assumption); (case zqz => assumption)); intro h' F' N'; (try k_sweep))
  k_with "getMethod ref" => (k_here; (with_reducible show wpAny _ _ (getMethod _ (Str.ofString "group") _) _ _ _); k_dflt (refine' getMm ?zqN ?zqm ?_; (case zqN => k_asm); (case zqm => k_mem)))
  k_with "call builtin:re.Match.group" => (k_here; k_dflt (refine' group_E ?zqz ?zqN ?zqm ?zqn ?_; (case zqN => k_asm); (case zqm => k_mem); (case zqn => k_mem); (case zqz => omega)); intro tk')
  k_with "truthy str" => (k_here; refine truthy_c (by simp [Array.size_extract]; omega) ?_)
  k_with "binaryOp Add str str" => (k_here; refine add_c (by simp [Array.size_extract, lit_nil]; omega) ?_; intro ta' tka')
  k_with "MINE lam" => (refine' kla_code ?zqk1 ?zqk2 ?zqk3 ?zqk4 ?zqk5 ?zqkA ?zqkF ?zqkK ?zqk6 ?zqk7 ?zqk8 ?zqk9 ?zqkB ?_ ?zqc2 ?zqc3 ?zqc4 ?zqc5; (case zqkA => exact rfl); (case zqkF => exact rfl); (case zqkK => exact rfl); (case zqk1 => k_asm); (case zqk2 => k_asm); (case zqk3 => k_asm); (case zqk4 => k_asm); (case zqk5 => k_asm); (case zqk6 => k_mem); (case zqk7 => exact codeRec_news (by k_asm) (by k_mem) (by assumption) (by assumption)); (case zqk8 => ktr_room); (case zqk9 => exact rfl); (case zqc5 => decide); (case zqkB => exact locs rfl); (case zqc2 => exact rfl); (case zqc3 => exact rfl); (case zqc4 => exact rfl); k_whole; intro g' L' h' FG' F' N' B' X' T'; (try dsimp only); (try k_lift B'); (try k_fold))
  k_with "compareOp NotIn str str" => (k_here; first | refine notin_c _ (in_ws _) ?_ | refine notin_c _ (in_bt _) ?_ | refine notin_c _ (in_nr _) ?_ | refine notin_c _ (in_bad _) ?_ | refine notin_c _ (in_punct _) ?_)
  k_with "ite" => (first | (with_reducible refine ite_ff9 ?_) | (with_reducible refine ite_tt9 ?_))
  k_with "call builtin:str.join" => (k_here; k_dflt (refine' join_c ?zqN ?zqm ?zqs ?zqz ?_; (case zqN => k_asm); (case zqm => k_mem); (case zqs => assumption); (case zqz => assumption)); intro tj' tkj')
  k_with "compareOp NotEq str str" => (k_here; first | refine ne_c lit_lt ?_ | refine ne_c lit_gt ?_ | refine ne_c lit_rp ?_ | refine ne_c lit_lp ?_)
  exact True.intro
/-! ## Comprehensions over a list of texts; slices; last signs -/
theorem take_pick (vs : List Value) (n : Nat) : (slicePick vs.toArray none (some (n : Int)) none).toList = vs.take n := by
  have e : sliceBounds none (some (n : Int)) none vs.toArray.size = (((0 : Nat) : Int), ((min n vs.toArray.size : Nat) : Int), 1) := by
    simp only [sliceBounds, Option.getD_none, show (1 : Int) > 0 by decide, if_true, if_neg (show ¬ ((n : Int) < 0) by omega)]
    congr 1
    congr 1
    omega
  rw [kmk_pick_nat _ e]
  show ((vs.drop 0).take (min n vs.toArray.size - 0)) = _
  rw [List.drop_zero, Nat.sub_zero, List.size_toArray, kmk_take_min]
theorem take_pick' {vs : List Value} {n : Nat} {y : Int} (hy : y = (n : Int)) : (slicePick vs.toArray none (some y) none).toList = vs.take n := by subst hy; exact take_pick vs n
theorem txt_last (u : U) : Txt.item (utext u) (-1) = ⟨#[u.c]⟩ := by
  cases u with
  | mk e c =>
    cases e with
    | true => rfl
    | false => rfl
theorem utext_size (u : U) : 1 ≤ (utext u).length ∧ (utext u).length ≤ 2 := by
  cases u with
  | mk e c => cases e <;> simp [utext, U.chars, Str.length]
section
variable {prog : Program} {w : World} {A : Around} {E : Value → Shared → Prop} {s : Shared}
theorem item_l {value slice : Expr} {t tu : Tok} {u : U} {Q : Value → Shared → Prop}
    (h : Q (.str ⟨#[u.c]⟩ s.toks) { s with toks := s.toks + 1 })
    (hs : subscripted slice false (.str (utext u) t) (.int (-1) tu) = operate [.str (utext u) t, .int (-1) tu] (getItem (.str (utext u) t) (.int (-1) tu)) := by with_unfolding_all rfl)
    (ht : ∀ r, letTemporaryGo value (.str (utext u) t) r = pure () := by intro _; with_unfolding_all rfl) :
    wpAny (model prog w) A (subscriptTail value slice (.str (utext u) t) (.int (-1) tu)) Q E s := by
  have hz := utext_size u
  refine item_str (fitsSsize_of (N := 9223372036854775808) (by omega) (by omega) (Int.le_refl _)) (by omega) (by omega) (fun _ => ?_) hs ht
  rw [txt_last]
  exact h
end
theorem cat_utext (us : List U) : cat (us.map utext) = flat us := by
  induction us with
  | nil => rfl
  | cons u us ih =>
    show (utext u).cps.toList ++ cat (us.map utext) = u.chars ++ flat us
    rw [ih]
    rfl
theorem cat_pct (us : List U) : cat (us.map fun u => (⟨(pctc u.c).toArray⟩ : Str)) = (plain us).flatMap pctc := by
  rw [← cat_pctc]
  unfold plain
  rw [List.map_map]
  rfl
theorem cat_last (us : List U) : cat (us.map fun u => (⟨#[u.c]⟩ : Str)) = plain us := by
  induction us with
  | nil => rfl
  | cons u us ih =>
    show u.c :: cat (us.map fun u => (⟨#[u.c]⟩ : Str)) = u.c :: plain us
    rw [ih]
section
variable {prog : Program} {w : World} {A : Around} {s : Shared} {h₀ : Heap} {L : Addr} {m : Str → Option Value} {env : Env}
theorem rest_list {elt : Expr} {x : Str} {scope : Scope} {cl : List (Str × Addr)} {S : List (Addr × Obj) → Prop} {Fin : List Value → List (Addr × Obj) → Prop} {news : List (Addr × Obj)} {its : List Value} {us : List U} (g : U → Str) (hits : StrsAre its (us.map utext))
    (turn : ∀ (u : U) t I oI C oC D m₂ ys h tk (E' : Value → Shared → Prop), u ∈ us → LCg.NsObj oC m₂ → m₂ x = some (.str (utext u) t) → Fr h₀ L h m → News h₀ L h ((I, oI) :: (C, oC) :: (D, LCg.lst ys) :: news) → LCg.Off3 I C D news → ((@Ne Nat I C) ∧ (@Ne Nat I D) ∧ (@Ne Nat C D)) →
      wpAny (model prog w) A (eval elt (compEnvC scope cl C env)) (LCg.CompEnd h₀ L m { s with heap := h, toks := tk } I oI C oC D (LCg.lst ys) S (fun r news' => news' = news ∧ ∃ t, r = .str (g u) t)) E' { s with heap := h, toks := tk })
    (fin : ∀ ys, StrsAre ys (us.map g) → Fin ys news) : LCg.CompRest prog w A h₀ L m env elt x scope cl s S (fun i v => its.toArray[i]? = some v) Fin its.toArray.size 0 [] news := by
  have hl : its.length = us.length := by rw [hits.length, List.length_map]
  have key : ∀ (j i : Nat) (ys : List Value), i + j = its.length → StrsAre ys ((us.take i).map g) → LCg.CompRest prog w A h₀ L m env elt x scope cl s S (fun i v => its.toArray[i]? = some v) Fin j i ys news := by
    intro j
    induction j with
    | zero =>
      intro i ys hi hy
      rw [List.take_of_length_le (by omega)] at hy
      exact LCg.CompRest.zero (fin ys hy)
    | succ j ih =>
      intro i ys hi hy
      refine LCg.CompRest.succ ?_
      intro v I oI C oC D m₂ h tk E' hv hC hx F N off ne
      have hlt : i < us.length := by omega
      obtain ⟨t, ht⟩ := hits.get i (utext us[i]) (by rw [List.getElem?_map, List.getElem?_eq_getElem hlt]; rfl)
      have hv' : its[i]? = some v := by simpa using hv
      rw [ht] at hv'
      cases hv'
      refine wpAny_mono (turn us[i] t I oI C oC D m₂ ys h tk E' (List.getElem_mem hlt) hC hx F N off ne) (fun r s₂ hq => ?_) fun _ _ e => e
      obtain ⟨h', tk', nw, e, F', N', off', hS, hn, t', hy'⟩ := hq
      rw [hn] at N' off' hS
      refine ⟨h', tk', news, e, F', N', off', hS, ?_⟩
      rw [hy']
      refine ih (i + 1) _ (by omega) ?_
      rw [List.take_add_one, List.getElem?_eq_getElem hlt, List.map_append]
      simpa using hy.append' (.cons (g us[i]) t' .nil)
  have := key its.length 0 [] (by omega) (by simp only [List.take_zero, List.map_nil]; exact .nil)
  simpa using this
end
/-! ### the table of `_law_percent` -/
abbrev pctK (t1 t2 t3 t4 t5 t6 t7 t8 t9 t10 t11 t12 : Tok) : List (Value × Value) :=
  [(.str (Str.ofString "<") t1, .str (Str.ofString "%3C") t2), (.str (Str.ofString ">") t3, .str (Str.ofString "%3E") t4), (.str (Str.ofString "\\") t5, .str (Str.ofString "%5C") t6), (.str (Str.ofString "\"") t7, .str (Str.ofString "%22") t8), (.str (Str.ofString "'") t9, .str (Str.ofString "%27") t10), (.str (Str.ofString " ") t11, .str (Str.ofString "%20") t12)]
def pctD : List (PyData × PyData) :=
  [(.str ⟨#[60]⟩, .str ⟨#[37, 51, 67]⟩), (.str ⟨#[62]⟩, .str ⟨#[37, 51, 69]⟩), (.str ⟨#[92]⟩, .str ⟨#[37, 53, 67]⟩), (.str ⟨#[34]⟩, .str ⟨#[37, 50, 50]⟩), (.str ⟨#[39]⟩, .str ⟨#[37, 50, 55]⟩), (.str ⟨#[32]⟩, .str ⟨#[37, 50, 48]⟩)]
theorem pctK_data (t1 t2 t3 t4 t5 t6 t7 t8 t9 t10 t11 t12 : Tok) : strData (pctK t1 t2 t3 t4 t5 t6 t7 t8 t9 t10 t11 t12) = pctD := by
  unfold pctK pctD
  rw [lit_lt, lit_gt, lit_bs, lit_sq, lit_dq, lit_blank, show Str.ofString "%3C" = ⟨#[37, 51, 67]⟩ from by decide, show Str.ofString "%3E" = ⟨#[37, 51, 69]⟩ from by decide, show Str.ofString "%5C" = ⟨#[37, 53, 67]⟩ from by decide,
    show Str.ofString "%22" = ⟨#[37, 50, 50]⟩ from by decide, show Str.ofString "%27" = ⟨#[37, 50, 55]⟩ from by decide, show Str.ofString "%20" = ⟨#[37, 50, 48]⟩ from by decide]
  rfl
theorem pct_same (a b : Nat) : Spec.same (PyData.str ⟨#[a]⟩) (PyData.str ⟨#[b]⟩) = decide (a = b) := by
  by_cases h : a = b
  · subst h; simp [Spec.same]
  · simp [Spec.same, h]
theorem get_pct {c : Nat} {v : Value} (h : PyProof.V.Flat v ((Spec.lookup (PyData.str ⟨#[c]⟩) pctD).getD (.str ⟨#[c]⟩))) : ∃ t, v = .str ⟨(pctc c).toArray⟩ t := by
  by_cases h1 : c = 60
  · subst h1; exact PyProof.V.Flat.str_inv h
  by_cases h2 : c = 62
  · subst h2; exact PyProof.V.Flat.str_inv h
  by_cases h3 : c = 92
  · subst h3; exact PyProof.V.Flat.str_inv h
  by_cases h4 : c = 34
  · subst h4; exact PyProof.V.Flat.str_inv h
  by_cases h5 : c = 39
  · subst h5; exact PyProof.V.Flat.str_inv h
  by_cases h6 : c = 32
  · subst h6; exact PyProof.V.Flat.str_inv h
  unfold pctD at h
  simp only [Spec.lookup, pct_same, decide_eq_false (Ne.symm h1), decide_eq_false (Ne.symm h2), decide_eq_false (Ne.symm h3), decide_eq_false (Ne.symm h4), decide_eq_false (Ne.symm h5), decide_eq_false (Ne.symm h6), Bool.false_eq_true, if_false, Option.getD_none] at h
  rw [pctc_self (by rintro (h | h | h | h | h | h) <;> contradiction)]
  exact PyProof.V.Flat.str_inv h
theorem flat_pct {kvs : List (Str × Value)} {t1 t2 t3 t4 t5 t6 t7 t8 t9 t10 t11 t12 : Tok}
    (h : PyProof.V.FlatPairs PyData.str kvs (strData [(.str (Str.ofString "<") t1, .str (Str.ofString "%3C") t2), (.str (Str.ofString ">") t3, .str (Str.ofString "%3E") t4), (.str (Str.ofString "\\") t5, .str (Str.ofString "%5C") t6), (.str (Str.ofString "\"") t7, .str (Str.ofString "%22") t8), (.str (Str.ofString "'") t9, .str (Str.ofString "%27") t10), (.str (Str.ofString " ") t11, .str (Str.ofString "%20") t12)])) :
    PyProof.V.FlatPairs PyData.str kvs pctD := pctK_data t1 t2 t3 t4 t5 t6 t7 t8 t9 t10 t11 t12 ▸ h

theorem words_s_pct_1 : True := by
  k_with_none
  w_top off
  k_with "MINE ar" => (with_reducible first | assumption | decide | ((show @LT.lt Nat _ _ _); first | exact ar_n1 (by assumption) | exact ar_n2 (by assumption) | exact ar_n6 (by assumption) | exact ar_n12 (by assumption) | exact ar_n13 (by assumption) | exact ar_k1 (by assumption) | exact ar_k2 (by assumption) | exact ar_k3 (by assumption) | exact ar_k4 (by assumption) | exact ar_k8 (by assumption) | exact ar_m1 (by assumption) | exact ar_m2 (by assumption) | exact ar_m3 (by assumption) | exact ar_m4 (by assumption) | exact ar_m5 (by assumption) | exact ar_e4 (by assumption) | exact ar_e5 (by assumption) | exact ar_r1 (by assumption) | exact Nat.lt_succ_self _ | exact ar_r2 (by assumption) (by decide) | exact ar_r3 (by assumption) (by decide) | exact ar_n7 (by assumption) (by assumption) | exact ar_n8 (by assumption) (by assumption) | exact ar_n16 (by assumption) (by assumption) | exact ar_n20 (by assumption) (by assumption) | exact ar_n21 (by assumption) (by assumption) | exact ar_n23 (by assumption) (by assumption) | exact ar_n24 (by assumption) (by assumption) | exact ar_e17 (by assumption) (by assumption) | exact ar_e19 (by assumption) (by assumption) | exact ar_n14 (by assumption) (by assumption) (by assumption) | exact ar_n26 (by assumption) (by assumption) (by assumption) | exact ar_n27 (by assumption) (by assumption) (by assumption) | exact ar_n15 (by assumption) (by assumption) (by assumption) (by assumption) | exact ar_n22 (by assumption) (by assumption) (by assumption) (by assumption)) | ((show @LE.le Nat _ _ _); first | exact Nat.le_refl _ | exact Nat.le_add_right _ _ | exact ar_n3 (by assumption) | exact ar_n4 (by assumption) | exact ar_n5 (by assumption) | exact ar_k7 (by assumption) | exact ar_k10 (by assumption) | exact ar_k13 (by assumption) | exact ar_e1 (by assumption) | exact ar_e2 (by assumption) | exact ar_e3 (by assumption) | exact ar_e6 (by assumption) | exact ar_e7 (by assumption) | exact ar_e8 (by assumption) | exact ar_s1 (by assumption) | exact ar_w2 (by assumption) | exact ar_n25 (by assumption) | exact ar_n9 (by assumption) (by assumption) | exact ar_n17 (by assumption) (by assumption) | exact ar_n28 (by assumption) (by assumption) | exact ar_e9 (by assumption) (by assumption) | exact ar_e10 (by assumption) (by assumption) | exact ar_e18 (by assumption) (by assumption) | exact ar_s3 (by assumption) (by assumption) | exact ar_n10 (by assumption) (by assumption) (by assumption) | exact ar_n11 (by assumption) (by assumption) (by assumption)) | ((show @LT.lt Int _ _ _); first | exact ar_k9 (by assumption) | exact ar_n18 (by assumption) | exact ar_n19 (by assumption) (by assumption)) | ((show @LE.le Int _ _ _); first | exact Int.natCast_nonneg _) | ((show @Eq Nat _ _); first | exact ar_e11 (by assumption) | exact ar_e12 (by assumption) | exact ar_e13 (by assumption) | exact ar_e15 (by assumption) | exact ar_s2 (by assumption) | exact ar_s4 (by assumption) | exact ar_w6 (by assumption) (by assumption) | exact ar_nn (by assumption)) | ((show @Eq Int _ _); first | exact ar_i5 | exact ar_i6 | exact ar_i7 | exact ar_i8 (by assumption)) | ((show ¬ _); first | exact ar_k5 (by assumption) | exact ar_k6 (by assumption) | exact ar_k11 (by assumption) | exact ar_k12 (by assumption) | exact ar_k14 (by assumption) | exact ar_e14 (by assumption) | exact ar_e16 (by assumption) | exact ar_e20 (by assumption) | exact ar_q1 (by assumption) | exact ar_q2 (by assumption) | exact ar_q3 (by assumption) | exact ar_q4 (by assumption) | exact ar_q5 (by assumption) | exact ar_w7 (by assumption) | exact ar_w8 (by assumption) | exact ar_w14 (by assumption) | exact ar_w16 (by assumption) | exact ar_w18 (by assumption) | exact ar_w19 (by assumption) | exact ar_w20 (by assumption) | exact ar_o3 (by assumption) | exact ar_o4 (by assumption) | exact ar_d (by assumption) (by decide) | exact ar_l1 (by assumption) (by assumption) | exact ar_l2 (by assumption) (by assumption) | exact ar_l3 (by assumption) (by assumption) | exact ar_w17 (by assumption) (by assumption) | exact ar_lv (by assumption) (by assumption) (by assumption) | exact ar_nn2 (by assumption)) | ((show _ ∧ _); first | exact ar_w1 (by assumption) | exact ar_w10 (by assumption) | exact ar_w12 (by assumption) | exact ar_w13 (by assumption) | exact ar_o2 (by assumption) | exact ar_w4 (by assumption) (by assumption) | exact ar_i4 (by assumption) (by assumption)) | ((show _ ∨ _); first | exact ar_o1 (by assumption) | exact ar_w3 (by assumption) (by assumption) | exact ar_w5 (by assumption) (by assumption) | exact ar_w9 (by assumption) (by assumption) | exact ar_w11 (by assumption) (by assumption)) | ((show _ ↔ _); first | exact ar_z3 | exact ar_z4 | exact ar_z5) | ((show False); first | exact (ar_f1 (by assumption) (by assumption) (by assumption)).elim | exact (ar_f2 (by assumption) (by assumption) (by assumption)).elim | exact (ar_c1 (by assumption) (by assumption)).elim | exact (ar_c2 (by assumption) (by assumption)).elim | exact (ar_c3 (by assumption) (by assumption)).elim | exact (ar_c4 (by assumption) (by assumption)).elim | exact (ar_c5 (by assumption) (by assumption)).elim | exact (ar_c7 (by assumption) (by assumption)).elim | exact (ar_c8 (by assumption) (by assumption)).elim | exact (ar_c9 (by assumption) (by assumption)).elim | exact (ar_c10 (by assumption) (by assumption)).elim | exact (ar_c11 (by assumption) (by assumption)).elim | exact (ar_c12 (by assumption) (by assumption)).elim | exact (ar_c13 (by assumption) (by assumption)).elim | exact (ar_f3 (by assumption) (by assumption)).elim | exact (ar_f4 (by assumption) (by assumption)).elim | exact (ar_f5 (by assumption) (by assumption)).elim | exact (ar_f6 (by assumption) (by assumption)).elim | exact (ar_f7 (by assumption) (by assumption)).elim | exact (ar_f8 (by assumption) (by assumption)).elim | exact (ar_f9 (by assumption) (by assumption)).elim | exact (ar_f10 (by assumption) (by assumption)).elim) | ((show @Eq _ _ _); first | exact (ar_f1 (by assumption) (by assumption) (by assumption)).elim | exact (ar_f2 (by assumption) (by assumption) (by assumption)).elim | exact (ar_c1 (by assumption) (by assumption)).elim | exact (ar_c2 (by assumption) (by assumption)).elim | exact (ar_c3 (by assumption) (by assumption)).elim | exact (ar_c4 (by assumption) (by assumption)).elim | exact (ar_c5 (by assumption) (by assumption)).elim | exact (ar_c7 (by assumption) (by assumption)).elim | exact (ar_c8 (by assumption) (by assumption)).elim | exact (ar_c9 (by assumption) (by assumption)).elim | exact (ar_c10 (by assumption) (by assumption)).elim | exact (ar_c11 (by assumption) (by assumption)).elim | exact (ar_c12 (by assumption) (by assumption)).elim | exact (ar_c13 (by assumption) (by assumption)).elim | exact (ar_f3 (by assumption) (by assumption)).elim | exact (ar_f4 (by assumption) (by assumption)).elim | exact (ar_f5 (by assumption) (by assumption)).elim | exact (ar_f6 (by assumption) (by assumption)).elim | exact (ar_f7 (by assumption) (by assumption)).elim | exact (ar_f8 (by assumption) (by assumption)).elim | exact (ar_f9 (by assumption) (by assumption)).elim | exact (ar_f10 (by assumption) (by assumption)).elim) | (intro _; first | exact (ar_f1 (by assumption) (by assumption) (by assumption)).elim | exact (ar_f2 (by assumption) (by assumption) (by assumption)).elim | exact (ar_c1 (by assumption) (by assumption)).elim | exact (ar_c2 (by assumption) (by assumption)).elim | exact (ar_c3 (by assumption) (by assumption)).elim | exact (ar_c4 (by assumption) (by assumption)).elim | exact (ar_c5 (by assumption) (by assumption)).elim | exact (ar_c7 (by assumption) (by assumption)).elim | exact (ar_c8 (by assumption) (by assumption)).elim | exact (ar_c9 (by assumption) (by assumption)).elim | exact (ar_c10 (by assumption) (by assumption)).elim | exact (ar_c11 (by assumption) (by assumption)).elim | exact (ar_c12 (by assumption) (by assumption)).elim | exact (ar_c13 (by assumption) (by assumption)).elim | exact (ar_f3 (by assumption) (by assumption)).elim | exact (ar_f4 (by assumption) (by assumption)).elim | exact (ar_f5 (by assumption) (by assumption)).elim | exact (ar_f6 (by assumption) (by assumption)).elim | exact (ar_f7 (by assumption) (by assumption)).elim | exact (ar_f8 (by assumption) (by assumption)).elim | exact (ar_f9 (by assumption) (by assumption)).elim | exact (ar_f10 (by assumption) (by assumption)).elim) | exact ar_i1 (by assumption) | exact ar_i2 (by assumption) | exact ar_i3 (by assumption) (by decide))
  k_with "MINE enter" => (refine' code_def ?zqk1 ?zqk2 ?zqk3 ?zqk4 ?zqk5 ?zqkA ?zqkF ?zqkK ?zqk6 ?zqk7 ?zqk8 ?zqk9 ?zqkB ?_ ?zqc2 ?zqc3 ?zqc4 ?zqc5; (case zqkA => exact rfl); (case zqkF => exact rfl); (case zqkK => assumption); (case zqk1 => k_asm); (case zqk2 => k_asm); (case zqk3 => k_asm); (case zqk4 => k_asm); (case zqk5 => k_asm); (case zqk6 => k_is); (case zqk7 => k_is); (case zqk8 => ktr_room); (case zqk9 => first | exact BindsTo.of_eq rfl | exact binds_K (by k_in) rfl (by k_is) rfl rfl rfl); (case zqc5 => decide); (case zqkB => exact locs rfl); (case zqc2 => exact rfl); (case zqc3 => exact rfl); (case zqc4 => exact rfl); k_whole; intro g' L' h' FG' F' N' B' X' T'; (try dsimp only); (try k_lift B'); (try k_fold))
  k_with "exec While BoolOp cons nil" => (refine stop ?_)
  k_with "exec While Compare cons nil" => (refine stop ?_)
  k_with "MINE same" => (intro z h2 h3; simp only [List.forall_mem_cons, List.not_mem_nil, false_implies, implies_true, and_true, ne_eq] at h2; (try simp only [List.contains_cons, List.contains_nil, Bool.or_false, Bool.or_eq_false_iff, beq_eq_false_iff_ne, ne_eq] at h3); simp [kstB, h2, h3])
  k_with "KswPost" => (refine stop ?_)
  k_with "subscriptTail Name Name str int" => (k_here; (with_unfolding_all refine' item_a ?zqk0 ?zqk1 ?zqk2 ?zqk3 ?_; (case zqk0 => assumption); (case zqk1 => first | rfl | exact Int.natCast_add _ _ | omega); (case zqk2 => omega); (case zqk3 => omega)); intro hItem')
  k_with "subscriptTail Name BinOp str int" => (k_here; (with_unfolding_all refine' item_a (n := _ + 1) ?zqk0 ?zqk1 ?zqk2 ?zqk3 ?_; (case zqk0 => assumption); (case zqk1 => rfl); (case zqk2 => omega); (case zqk3 => omega)); intro hItem')
  k_with "compareOp Eq str str" => (k_here; first | refine eq_c lit_lt ?_ | refine eq_c lit_gt ?_ | refine eq_c lit_bs ?_ | refine eq_c lit_lp ?_ | refine eq_c lit_rp ?_ | refine eq_c lit_nl ?_ | refine eq_c lit_cr ?_ | refine eq_c lit_del ?_ | refine eq_c lit_nul ?_ | refine eq_c lit_blank ?_)
  k_with "compareOp In str str" => (k_here; first | refine in_c _ (in_ws _) ?_ | refine in_c _ (in_bt _) ?_ | refine in_c _ (in_nr _) ?_ | refine in_c _ (in_bad _) ?_ | refine in_c _ (in_punct _) ?_)
  k_with "call builtin:len" => (k_here; (with_reducible show wpAny _ _ (call (Value.builtin "len") [Value.str _ _]) _ _ _); refine len_c (by omega) ?_)
  k_with "call ref" => (k_here; (with_reducible show wpAny _ _ (call (Value.ref _) _ _) _ _ _); refine stop ?_)
  k_with "MINE room" => ((case B => k_asm); (case F => k_asm); (case X => k_asm); (case N => k_asm); (case T => k_asm); (case hk => first | exact rfl | assumption); (case hd => ktr_room); (case hu => ktr_units))
  k_with "getMethod ref" => (k_here; (with_reducible show wpAny _ _ (getMethod _ (Str.ofString "sub") _) _ _ _); k_dflt (refine' getM ?zqF ?zqX ?zql slot_sub type_sub ?_; (case zqF => k_asm); (case zqX => k_asm); (case zql => k_is)))
  k_with "getMethod ref" => (k_here; (with_reducible show wpAny _ _ (getMethod _ (Str.ofString "match") _) _ _ _); k_dflt (refine' getM ?zqF ?zqX ?zql slot_match type_match ?_; (case zqF => k_asm); (case zqX => k_asm); (case zql => k_is)))
  k_with "callWith ref" => (k_here; k_dflt (refine' callWith_K ?zqk1 ?zqk2 ?_; (case zqk1 => k_asm); (case zqk2 => k_is); k_whole))
  k_with "call builtin:list.append" => (k_here; k_dflt (refine' append_T ?zqF ?zqN ?zql ?zqz ?_; (case zqF => k_asm); (case zqN => k_asm); (case zql => assumption); (case zqz => assumption)); intro h' F' N'; (try k_sweep))
  k_with "getMethod ref" => (k_here; (with_reducible show wpAny _ _ (getMethod _ (Str.ofString "group") _) _ _ _); k_dflt (refine' getMm ?zqN ?zqm ?_; (case zqN => k_asm); (case zqm => k_mem)))
  k_with "call builtin:re.Match.group" => (k_here; k_dflt (refine' group_E ?zqz ?zqN ?zqm ?zqn ?_; (case zqN => k_asm); (case zqm => k_mem); (case zqn => k_mem); (case zqz => omega)); intro tk')
  k_with "truthy str" => (k_here; refine truthy_c (by simp [Array.size_extract]; omega) ?_)
  k_with "binaryOp Add str str" => (k_here; refine add_c (by simp [Array.size_extract, lit_nil]; omega) ?_; intro ta' tka')
  k_with "MINE lam" => (refine' kla_code ?zqk1 ?zqk2 ?zqk3 ?zqk4 ?zqk5 ?zqkA ?zqkF ?zqkK ?zqk6 ?zqk7 ?zqk8 ?zqk9 ?zqkB ?_ ?zqc2 ?zqc3 ?zqc4 ?zqc5; (case zqkA => exact rfl); (case zqkF => exact rfl); (case zqkK => exact rfl); (case zqk1 => k_asm); (case zqk2 => k_asm); (case zqk3 => k_asm); (case zqk4 => k_asm); (case zqk5 => k_asm); (case zqk6 => k_mem); (case zqk7 => exact codeRec_news (by k_asm) (by k_mem) (by assumption) (by assumption)); (case zqk8 => ktr_room); (case zqk9 => exact rfl); (case zqc5 => decide); (case zqkB => exact locs rfl); (case zqc2 => exact rfl); (case zqc3 => exact rfl); (case zqc4 => exact rfl); k_whole; intro g' L' h' FG' F' N' B' X' T'; (try dsimp only); (try k_lift B'); (try k_fold))
  k_with "compareOp NotIn str str" => (k_here; first | refine notin_c _ (in_ws _) ?_ | refine notin_c _ (in_bt _) ?_ | refine notin_c _ (in_nr _) ?_ | refine notin_c _ (in_bad _) ?_ | refine notin_c _ (in_punct _) ?_)
  k_with "ite" => (first | (with_reducible refine ite_ff9 ?_) | (with_reducible refine ite_tt9 ?_))
  k_with "call builtin:str.join" => (k_here; k_dflt (refine' join_c ?zqN ?zqm ?zqs ?zqz ?_; (case zqN => k_asm); (case zqm => k_mem); (case zqs => assumption); (case zqz => assumption)); intro tj' tkj')
  k_with "compareOp NotEq str str" => (k_here; first | refine ne_c lit_lt ?_ | refine ne_c lit_gt ?_ | refine ne_c lit_rp ?_ | refine ne_c lit_lp ?_)
  exact True.intro
set_option maxHeartbeats 800000 in
theorem pct_spec {w : World} {p : Program} {loose : List Str} {mean : ExcName → Option Value} {mg mb : Str → Option Value} :
   SpecOf w p loose mean mg mb 142 1 [] (fun tl r => ∃ (a : Addr) (od : Obj) (kvs : List (Str × Value)), r = .ref a ∧ tl = [(a, od)] ∧ (a == sysModules) = false ∧ Obj.IsDictOf (PySem.strKind PySem.Challenge.rw_ba0041_01.row.prog w) od kvs ∧ PyProof.V.FlatPairs PyData.str kvs pctD) := by
  unfold SpecOf
  k_fill
  intro dp un gd cn cs a ccd cl outer A₀ base h₀ L m news s Q E B F X N T hk hd hu hret
  refine wpAny_call ?_
  k_dflt walk_at "MINE enter"
  k_steps
  rename PyProof.V.FlatPairs _ _ _ => hf9
  rename Obj.IsDictOf _ _ _ => hd9
  rename ((_ == sysModules) = false) => lo9
  rename News h₀ L _ _ => N9
  rename (∀ p ∈ news, p.1 < _) => l9
  have hg9 := flat_pct hf9
  exact hret _ [_] _ _ (by assumption) N9 (fun q hq p hp => by rw [List.mem_singleton.mp hp]; exact l9 q hq) ⟨_, _, _, rfl, rfl, lo9, hd9, hg9⟩

theorem words_eqw_1 : True := by
  k_with_none
  w_top off
  k_with "MINE ar" => (with_reducible first | assumption | decide | ((show @LT.lt Nat _ _ _); first | exact ar_n1 (by assumption) | exact ar_n2 (by assumption) | exact ar_n6 (by assumption) | exact ar_n12 (by assumption) | exact ar_n13 (by assumption) | exact ar_k1 (by assumption) | exact ar_k2 (by assumption) | exact ar_k3 (by assumption) | exact ar_k4 (by assumption) | exact ar_k8 (by assumption) | exact ar_m1 (by assumption) | exact ar_m2 (by assumption) | exact ar_m3 (by assumption) | exact ar_m4 (by assumption) | exact ar_m5 (by assumption) | exact ar_e4 (by assumption) | exact ar_e5 (by assumption) | exact ar_r1 (by assumption) | exact Nat.lt_succ_self _ | exact ar_r2 (by assumption) (by decide) | exact ar_r3 (by assumption) (by decide) | exact ar_n7 (by assumption) (by assumption) | exact ar_n8 (by assumption) (by assumption) | exact ar_n16 (by assumption) (by assumption) | exact ar_n20 (by assumption) (by assumption) | exact ar_n21 (by assumption) (by assumption) | exact ar_n23 (by assumption) (by assumption) | exact ar_n24 (by assumption) (by assumption) | exact ar_e17 (by assumption) (by assumption) | exact ar_e19 (by assumption) (by assumption) | exact ar_n14 (by assumption) (by assumption) (by assumption) | exact ar_n26 (by assumption) (by assumption) (by assumption) | exact ar_n27 (by assumption) (by assumption) (by assumption) | exact ar_n15 (by assumption) (by assumption) (by assumption) (by assumption) | exact ar_n22 (by assumption) (by assumption) (by assumption) (by assumption)) | ((show @LE.le Nat _ _ _); first | exact Nat.le_refl _ | exact Nat.le_add_right _ _ | exact ar_n3 (by assumption) | exact ar_n4 (by assumption) | exact ar_n5 (by assumption) | exact ar_k7 (by assumption) | exact ar_k10 (by assumption) | exact ar_k13 (by assumption) | exact ar_e1 (by assumption) | exact ar_e2 (by assumption) | exact ar_e3 (by assumption) | exact ar_e6 (by assumption) | exact ar_e7 (by assumption) | exact ar_e8 (by assumption) | exact ar_s1 (by assumption) | exact ar_w2 (by assumption) | exact ar_n25 (by assumption) | exact ar_n9 (by assumption) (by assumption) | exact ar_n17 (by assumption) (by assumption) | exact ar_n28 (by assumption) (by assumption) | exact ar_e9 (by assumption) (by assumption) | exact ar_e10 (by assumption) (by assumption) | exact ar_e18 (by assumption) (by assumption) | exact ar_s3 (by assumption) (by assumption) | exact ar_n10 (by assumption) (by assumption) (by assumption) | exact ar_n11 (by assumption) (by assumption) (by assumption)) | ((show @LT.lt Int _ _ _); first | exact ar_k9 (by assumption) | exact ar_n18 (by assumption) | exact ar_n19 (by assumption) (by assumption)) | ((show @LE.le Int _ _ _); first | exact Int.natCast_nonneg _) | ((show @Eq Nat _ _); first | exact ar_e11 (by assumption) | exact ar_e12 (by assumption) | exact ar_e13 (by assumption) | exact ar_e15 (by assumption) | exact ar_s2 (by assumption) | exact ar_s4 (by assumption) | exact ar_w6 (by assumption) (by assumption) | exact ar_nn (by assumption)) | ((show @Eq Int _ _); first | exact ar_i5 | exact ar_i6 | exact ar_i7 | exact ar_i8 (by assumption)) | ((show ¬ _); first | exact ar_k5 (by assumption) | exact ar_k6 (by assumption) | exact ar_k11 (by assumption) | exact ar_k12 (by assumption) | exact ar_k14 (by assumption) | exact ar_e14 (by assumption) | exact ar_e16 (by assumption) | exact ar_e20 (by assumption) | exact ar_q1 (by assumption) | exact ar_q2 (by assumption) | exact ar_q3 (by assumption) | exact ar_q4 (by assumption) | exact ar_q5 (by assumption) | exact ar_w7 (by assumption) | exact ar_w8 (by assumption) | exact ar_w14 (by assumption) | exact ar_w16 (by assumption) | exact ar_w18 (by assumption) | exact ar_w19 (by assumption) | exact ar_w20 (by assumption) | exact ar_o3 (by assumption) | exact ar_o4 (by assumption) | exact ar_d (by assumption) (by decide) | exact ar_l1 (by assumption) (by assumption) | exact ar_l2 (by assumption) (by assumption) | exact ar_l3 (by assumption) (by assumption) | exact ar_w17 (by assumption) (by assumption) | exact ar_lv (by assumption) (by assumption) (by assumption) | exact ar_nn2 (by assumption)) | ((show _ ∧ _); first | exact ar_w1 (by assumption) | exact ar_w10 (by assumption) | exact ar_w12 (by assumption) | exact ar_w13 (by assumption) | exact ar_o2 (by assumption) | exact ar_w4 (by assumption) (by assumption) | exact ar_i4 (by assumption) (by assumption)) | ((show _ ∨ _); first | exact ar_o1 (by assumption) | exact ar_w3 (by assumption) (by assumption) | exact ar_w5 (by assumption) (by assumption) | exact ar_w9 (by assumption) (by assumption) | exact ar_w11 (by assumption) (by assumption)) | ((show _ ↔ _); first | exact ar_z3 | exact ar_z4 | exact ar_z5) | ((show False); first | exact (ar_f1 (by assumption) (by assumption) (by assumption)).elim | exact (ar_f2 (by assumption) (by assumption) (by assumption)).elim | exact (ar_c1 (by assumption) (by assumption)).elim | exact (ar_c2 (by assumption) (by assumption)).elim | exact (ar_c3 (by assumption) (by assumption)).elim | exact (ar_c4 (by assumption) (by assumption)).elim | exact (ar_c5 (by assumption) (by assumption)).elim | exact (ar_c7 (by assumption) (by assumption)).elim | exact (ar_c8 (by assumption) (by assumption)).elim | exact (ar_c9 (by assumption) (by assumption)).elim | exact (ar_c10 (by assumption) (by assumption)).elim | exact (ar_c11 (by assumption) (by assumption)).elim | exact (ar_c12 (by assumption) (by assumption)).elim | exact (ar_c13 (by assumption) (by assumption)).elim | exact (ar_f3 (by assumption) (by assumption)).elim | exact (ar_f4 (by assumption) (by assumption)).elim | exact (ar_f5 (by assumption) (by assumption)).elim | exact (ar_f6 (by assumption) (by assumption)).elim | exact (ar_f7 (by assumption) (by assumption)).elim | exact (ar_f8 (by assumption) (by assumption)).elim | exact (ar_f9 (by assumption) (by assumption)).elim | exact (ar_f10 (by assumption) (by assumption)).elim) | ((show @Eq _ _ _); first | exact (ar_f1 (by assumption) (by assumption) (by assumption)).elim | exact (ar_f2 (by assumption) (by assumption) (by assumption)).elim | exact (ar_c1 (by assumption) (by assumption)).elim | exact (ar_c2 (by assumption) (by assumption)).elim | exact (ar_c3 (by assumption) (by assumption)).elim | exact (ar_c4 (by assumption) (by assumption)).elim | exact (ar_c5 (by assumption) (by assumption)).elim | exact (ar_c7 (by assumption) (by assumption)).elim | exact (ar_c8 (by assumption) (by assumption)).elim | exact (ar_c9 (by assumption) (by assumption)).elim | exact (ar_c10 (by assumption) (by assumption)).elim | exact (ar_c11 (by assumption) (by assumption)).elim | exact (ar_c12 (by assumption) (by assumption)).elim | exact (ar_c13 (by assumption) (by assumption)).elim | exact (ar_f3 (by assumption) (by assumption)).elim | exact (ar_f4 (by assumption) (by assumption)).elim | exact (ar_f5 (by assumption) (by assumption)).elim | exact (ar_f6 (by assumption) (by assumption)).elim | exact (ar_f7 (by assumption) (by assumption)).elim | exact (ar_f8 (by assumption) (by assumption)).elim | exact (ar_f9 (by assumption) (by assumption)).elim | exact (ar_f10 (by assumption) (by assumption)).elim) | (intro _; first | exact (ar_f1 (by assumption) (by assumption) (by assumption)).elim | exact (ar_f2 (by assumption) (by assumption) (by assumption)).elim | exact (ar_c1 (by assumption) (by assumption)).elim | exact (ar_c2 (by assumption) (by assumption)).elim | exact (ar_c3 (by assumption) (by assumption)).elim | exact (ar_c4 (by assumption) (by assumption)).elim | exact (ar_c5 (by assumption) (by assumption)).elim | exact (ar_c7 (by assumption) (by assumption)).elim | exact (ar_c8 (by assumption) (by assumption)).elim | exact (ar_c9 (by assumption) (by assumption)).elim | exact (ar_c10 (by assumption) (by assumption)).elim | exact (ar_c11 (by assumption) (by assumption)).elim | exact (ar_c12 (by assumption) (by assumption)).elim | exact (ar_c13 (by assumption) (by assumption)).elim | exact (ar_f3 (by assumption) (by assumption)).elim | exact (ar_f4 (by assumption) (by assumption)).elim | exact (ar_f5 (by assumption) (by assumption)).elim | exact (ar_f6 (by assumption) (by assumption)).elim | exact (ar_f7 (by assumption) (by assumption)).elim | exact (ar_f8 (by assumption) (by assumption)).elim | exact (ar_f9 (by assumption) (by assumption)).elim | exact (ar_f10 (by assumption) (by assumption)).elim) | exact ar_i1 (by assumption) | exact ar_i2 (by assumption) | exact ar_i3 (by assumption) (by decide))
  k_with "MINE enter" => (refine' code_def ?zqk1 ?zqk2 ?zqk3 ?zqk4 ?zqk5 ?zqkA ?zqkF ?zqkK ?zqk6 ?zqk7 ?zqk8 ?zqk9 ?zqkB ?_ ?zqc2 ?zqc3 ?zqc4 ?zqc5; (case zqkA => exact rfl); (case zqkF => exact rfl); (case zqkK => assumption); (case zqk1 => k_asm); (case zqk2 => k_asm); (case zqk3 => k_asm); (case zqk4 => k_asm); (case zqk5 => k_asm); (case zqk6 => k_is); (case zqk7 => k_is); (case zqk8 => ktr_room); (case zqk9 => first | exact BindsTo.of_eq rfl | exact binds_K (by k_in) rfl (by k_is) rfl rfl rfl); (case zqc5 => decide); (case zqkB => exact locs rfl); (case zqc2 => exact rfl); (case zqc3 => exact rfl); (case zqc4 => exact rfl); k_whole; intro g' L' h' FG' F' N' B' X' T'; (try dsimp only); (try k_lift B'); (try k_fold))
  k_with "exec While BoolOp cons nil" => (refine stop ?_)
  k_with "exec While Compare cons nil" => (refine stop ?_)
  k_with "MINE same" => (intro z h2 h3; simp only [List.forall_mem_cons, List.not_mem_nil, false_implies, implies_true, and_true, ne_eq] at h2; (try simp only [List.contains_cons, List.contains_nil, Bool.or_false, Bool.or_eq_false_iff, beq_eq_false_iff_ne, ne_eq] at h3); simp [kstB, h2, h3])
  k_with "KswPost" => (refine stop ?_)
  k_with "subscriptTail Name Name str int" => (k_here; (with_unfolding_all refine' item_a ?zqk0 ?zqk1 ?zqk2 ?zqk3 ?_; (case zqk0 => assumption); (case zqk1 => first | rfl | exact Int.natCast_add _ _ | omega); (case zqk2 => omega); (case zqk3 => omega)); intro hItem')
  k_with "subscriptTail Name BinOp str int" => (k_here; (with_unfolding_all refine' item_a (n := _ + 1) ?zqk0 ?zqk1 ?zqk2 ?zqk3 ?_; (case zqk0 => assumption); (case zqk1 => rfl); (case zqk2 => omega); (case zqk3 => omega)); intro hItem')
  k_with "compareOp Eq str str" => (k_here; first | refine eq_c lit_lt ?_ | refine eq_c lit_gt ?_ | refine eq_c lit_bs ?_ | refine eq_c lit_lp ?_ | refine eq_c lit_rp ?_ | refine eq_c lit_nl ?_ | refine eq_c lit_cr ?_ | refine eq_c lit_del ?_ | refine eq_c lit_nul ?_ | refine eq_c lit_blank ?_)
  k_with "compareOp In str str" => (k_here; first | refine in_c _ (in_ws _) ?_ | refine in_c _ (in_bt _) ?_ | refine in_c _ (in_nr _) ?_ | refine in_c _ (in_bad _) ?_ | refine in_c _ (in_punct _) ?_)
  k_with "call builtin:len" => (k_here; (with_reducible show wpAny _ _ (call (Value.builtin "len") [Value.str _ _]) _ _ _); refine len_c (by omega) ?_)
  k_with "call ref" => (k_here; (with_reducible show wpAny _ _ (call (Value.ref _) _ _) _ _ _); refine stop ?_)
  k_with "MINE room" => ((case B => k_asm); (case F => k_asm); (case X => k_asm); (case N => k_asm); (case T => k_asm); (case hk => first | exact rfl | assumption); (case hd => ktr_room); (case hu => ktr_units))
  k_with "getMethod ref" => (k_here; (with_reducible show wpAny _ _ (getMethod _ (Str.ofString "sub") _) _ _ _); k_dflt (refine' getM ?zqF ?zqX ?zql slot_sub type_sub ?_; (case zqF => k_asm); (case zqX => k_asm); (case zql => k_is)))
  k_with "getMethod ref" => (k_here; (with_reducible show wpAny _ _ (getMethod _ (Str.ofString "match") _) _ _ _); k_dflt (refine' getM ?zqF ?zqX ?zql slot_match type_match ?_; (case zqF => k_asm); (case zqX => k_asm); (case zql => k_is)))
  k_with "callWith ref" => (k_here; k_dflt (refine' callWith_K ?zqk1 ?zqk2 ?_; (case zqk1 => k_asm); (case zqk2 => k_is); k_whole))
  k_with "call builtin:list.append" => (k_here; k_dflt (refine' append_T ?zqF ?zqN ?zql ?zqz ?_; (case zqF => k_asm); (case zqN => k_asm); (case zql => assumption); (case zqz => assumption)); intro h' F' N'; (try k_sweep))
  k_with "getMethod ref" => (k_here; (with_reducible show wpAny _ _ (getMethod _ (Str.ofString "group") _) _ _ _); k_dflt (refine' getMm ?zqN ?zqm ?_; (case zqN => k_asm); (case zqm => k_mem)))
  k_with "call builtin:re.Match.group" => (k_here; k_dflt (refine' group_E ?zqz ?zqN ?zqm ?zqn ?_; (case zqN => k_asm); (case zqm => k_mem); (case zqn => k_mem); (case zqz => omega)); intro tk')
  k_with "truthy str" => (k_here; refine truthy_c (by simp [Array.size_extract]; omega) ?_)
  k_with "binaryOp Add str str" => (k_here; refine add_c (by simp [Array.size_extract, lit_nil]; omega) ?_; intro ta' tka')
  k_with "MINE lam" => (refine' kla_code ?zqk1 ?zqk2 ?zqk3 ?zqk4 ?zqk5 ?zqkA ?zqkF ?zqkK ?zqk6 ?zqk7 ?zqk8 ?zqk9 ?zqkB ?_ ?zqc2 ?zqc3 ?zqc4 ?zqc5; (case zqkA => exact rfl); (case zqkF => exact rfl); (case zqkK => exact rfl); (case zqk1 => k_asm); (case zqk2 => k_asm); (case zqk3 => k_asm); (case zqk4 => k_asm); (case zqk5 => k_asm); (case zqk6 => k_mem); (case zqk7 => exact codeRec_news (by k_asm) (by k_mem) (by assumption) (by assumption)); (case zqk8 => ktr_room); (case zqk9 => exact rfl); (case zqc5 => decide); (case zqkB => exact locs rfl); (case zqc2 => exact rfl); (case zqc3 => exact rfl); (case zqc4 => exact rfl); k_whole; intro g' L' h' FG' F' N' B' X' T'; (try dsimp only); (try k_lift B'); (try k_fold))
  k_with "compareOp NotIn str str" => (k_here; first | refine notin_c _ (in_ws _) ?_ | refine notin_c _ (in_bt _) ?_ | refine notin_c _ (in_nr _) ?_ | refine notin_c _ (in_bad _) ?_ | refine notin_c _ (in_punct _) ?_)
  k_with "ite" => (first | (with_reducible refine ite_ff9 ?_) | (with_reducible refine ite_tt9 ?_))
  k_with "call builtin:str.join" => (k_here; k_dflt (refine' join_c ?zqN ?zqm ?zqs ?zqz ?_; (case zqN => k_asm); (case zqm => k_mem); (case zqs => assumption); (case zqz => assumption)); intro tj' tkj')
  k_with "compareOp NotEq str str" => (k_here; first | refine ne_c lit_lt ?_ | refine ne_c lit_gt ?_ | refine ne_c lit_rp ?_ | refine ne_c lit_lp ?_)
  exact True.intro
/-! ## Two made tuples compared -/
/-- two values that compare equal here -/
def EqW (prog : Program) (w : World) (A : Around) (s : Shared) (x y : Value) : Prop := ∀ (E : Value → Shared → Prop) (Q : Bool → Shared → Prop), Q true s → wpAny (model prog w) A (eqBool x y) Q E s
theorem EqW.of {prog : Program} {w : World} {A : Around} {s : Shared} {x y : Value} (h : SeqAt.EqAt A s x y true) : EqW prog w A s x y := fun E Q hq => h prog w E Q hq
theorem EqW.refs {prog : Program} {w : World} {A : Around} {s : Shared} {a b : Addr} (hne : a ≠ b) (h : ∀ (E : Value → Shared → Prop) (Q : Value → Shared → Prop), Q (.bool true) s → wpAny (model prog w) A (compareOp .Eq (.ref a) (.ref b)) Q E s) : EqW prog w A s (.ref a) (.ref b) := fun E Q hq => by
  unfold eqBool
  refine wpAny_holding ?_
  refine wpAny_ite_split (fun hab => absurd (by have := eq_of_beq hab; injection this) hne) (fun _ => ?_)
  exact wpAny_bind (h E _ (wpAny_truthy_bool hq))
theorem tup2_eq {prog : Program} {w : World} {A : Around} {E : Value → Shared → Prop} {s : Shared} {l b : Addr} {x1 x2 y1 y2 : Value} {Q : Value → Shared → Prop} (hl : s.heap.get? l = some (tupObj [x1, x2])) (hb : s.heap.get? b = some (tupObj [y1, y2]))
    (h1 : EqW prog w A.in1 s x1 y1) (h2 : EqW prog w A.in1 s x2 y2) (hu : A.units < cLine) (h : Q (.bool true) s) : wpAny (model prog w) A (compareOp .Eq (.ref l) (.ref b)) Q E s := by
  refine wpAny_richCompare_same_room (op := .Eq) ⟨_, hl, rfl⟩ ⟨_, hb, rfl⟩ F.slot_tuple_eq (wpAny_call_entry F.slot_tuple_eq ⟨_, hl, rfl⟩ F.entry_tuple_eq ?_ (F.args_tuple_eq_2 _ _)) hu
  have f2 := AutoSeq1.sub_tuple_tuple
  obtain ⟨hp, g, d, tk, os⟩ := s
  wp_walk using wpAny_loadPart' hl, wpAny_loadPart' hb, wpAny_forIn_list _ (fun rest b s' => b.1 = none ∧ s' = ⟨hp, g, d, tk, os⟩ ∧ ∀ p ∈ rest, EqW prog w A.in1 ⟨hp, g, d, tk, os⟩ p.1 p.2) _
  case turn =>
    rintro ⟨y, x⟩ rest b s' ⟨hb', rfl, hz⟩
    refine wpAny_bind (hz (y, x) (.head _) _ _ ?_)
    wp_walk
    exact ⟨rfl, rfl, fun p hp => hz p (.tail _ hp)⟩
  case fin =>
    rintro ⟨b1, b2⟩ s' ⟨hb', rfl, _⟩
    simp only at hb'
    subst hb'
    wp_walk
    refine ⟨_, rfl, ?_⟩
    exact And.intro (show Value.bool true ≠ Value.notImplemented from fun x => nomatch x) h
  case h =>
    refine ⟨rfl, rfl, fun p hp => ?_⟩
    rcases List.mem_cons.mp hp with rfl | hp
    · exact h1
    · rw [List.mem_singleton.mp hp]; exact h2
/-! two tables compared -/
theorem EqW.ints {prog : Program} {w : World} {A : Around} {s : Shared} {x y : Int} {t u : Tok} (h : x = y) : EqW prog w A s (.int x t) (.int y u) := by
  subst h
  refine EqW.of ?_
  have := SeqAt.EqAt.int_int (A := A) (s := s) x t x u
  simpa using this
theorem eqv_str (x : Str) : PyData.eqv (.str x) (.str x) = true := by simp [PyData.eqv]
theorem rows_one (x : Str) : KeqRows [(.str (Str.ofString "url"), .str x)] [(.str (Str.ofString "url"), .str x)] true := by
  have h := KeqRows.hit (Db := [(PyData.str (Str.ofString "url"), PyData.str x)]) (k := .str (Str.ofString "url")) (v := .str x) (u := .str x) (by simp [Spec.lookup, Spec.same]) .nil
  rw [eqv_str] at h
  exact h
theorem rows_two (x y : Str) : KeqRows [(.str (Str.ofString "url"), .str x), (.str (Str.ofString "title"), .str y)] [(.str (Str.ofString "url"), .str x), (.str (Str.ofString "title"), .str y)] true := by
  have hne : (Str.ofString "url" == Str.ofString "title") = false := by decide
  have h2 := KeqRows.hit (Db := [(PyData.str (Str.ofString "url"), PyData.str x), (.str (Str.ofString "title"), .str y)]) (k := .str (Str.ofString "title")) (v := .str y) (u := .str y) (by simp [Spec.lookup, Spec.same, url_title]) .nil
  have h := KeqRows.hit (Db := [(PyData.str (Str.ofString "url"), PyData.str x), (.str (Str.ofString "title"), .str y)]) (k := .str (Str.ofString "url")) (v := .str x) (u := .str x) (by simp [Spec.lookup, Spec.same]) h2
  rw [eqv_str, eqv_str] at h
  exact h
theorem link_eqw {w : World} {A : Around} {s : Shared} {h₀ : Heap} {L a b : Addr} {oa ob : Obj} {news : List (Addr × Obj)} {g t : List U} (N : News h₀ L s.heap news) (pa : (a, oa) ∈ news) (pb : (b, ob) ∈ news) (Ha : LinkDict w oa g t) (Hb : LinkDict w ob g t)
    (la : 76 < a) (lb : 76 < b) (hne : a ≠ b) (hu : A.units < cLine) : EqW PySem.Challenge.rw_ba0041_01.row.prog w A s (.ref a) (.ref b) := by
  have sa : (a == sysModules) = false := by
    rw [beq_eq_false_iff_ne]
    rintro rfl
    exact absurd la (by decide)
  have sb : (b == sysModules) = false := by
    rw [beq_eq_false_iff_ne]
    rintro rfl
    exact absurd lb (by decide)
  refine EqW.refs hne fun E Q hq => ?_
  rcases Ha with ⟨h0, t2, d1, f1⟩ | ⟨h0, t2, t4, d1, f1⟩
  · rcases Hb with ⟨_, u2, d2, f2⟩ | ⟨h1, _⟩
    · exact keq_tabs PyProof.V.same_str (TabAt.ofNews N pa sa d1 f1) (TabAt.ofNews N pb sb d2 f2) rfl hu (rows_one _) hq
    · exact absurd h0 h1
  · rcases Hb with ⟨h1, _⟩ | ⟨_, u2, u4, d2, f2⟩
    · exact absurd h1 h0
    · exact keq_tabs PyProof.V.same_str (TabAt.ofNews N pa sa d1 f1) (TabAt.ofNews N pb sb d2 f2) rfl hu (rows_two _ _) hq

section
theorem words_s_read3_1 : True := by
  k_with_none
  w_top off
  k_with "MINE ar" => (with_reducible first | assumption | decide | ((show @LT.lt Nat _ _ _); first | exact ar_n1 (by assumption) | exact ar_n2 (by assumption) | exact ar_n6 (by assumption) | exact ar_n12 (by assumption) | exact ar_n13 (by assumption) | exact ar_k1 (by assumption) | exact ar_k2 (by assumption) | exact ar_k3 (by assumption) | exact ar_k4 (by assumption) | exact ar_k8 (by assumption) | exact ar_m1 (by assumption) | exact ar_m2 (by assumption) | exact ar_m3 (by assumption) | exact ar_m4 (by assumption) | exact ar_m5 (by assumption) | exact ar_e4 (by assumption) | exact ar_e5 (by assumption) | exact ar_r1 (by assumption) | exact Nat.lt_succ_self _ | exact ar_r2 (by assumption) (by decide) | exact ar_r3 (by assumption) (by decide) | exact ar_n7 (by assumption) (by assumption) | exact ar_n8 (by assumption) (by assumption) | exact ar_n16 (by assumption) (by assumption) | exact ar_n20 (by assumption) (by assumption) | exact ar_n21 (by assumption) (by assumption) | exact ar_n23 (by assumption) (by assumption) | exact ar_n24 (by assumption) (by assumption) | exact ar_e17 (by assumption) (by assumption) | exact ar_e19 (by assumption) (by assumption) | exact ar_n14 (by assumption) (by assumption) (by assumption) | exact ar_n26 (by assumption) (by assumption) (by assumption) | exact ar_n27 (by assumption) (by assumption) (by assumption) | exact ar_n15 (by assumption) (by assumption) (by assumption) (by assumption) | exact ar_n22 (by assumption) (by assumption) (by assumption) (by assumption)) | ((show @LE.le Nat _ _ _); first | exact Nat.le_refl _ | exact Nat.le_add_right _ _ | exact ar_n3 (by assumption) | exact ar_n4 (by assumption) | exact ar_n5 (by assumption) | exact ar_k7 (by assumption) | exact ar_k10 (by assumption) | exact ar_k13 (by assumption) | exact ar_e1 (by assumption) | exact ar_e2 (by assumption) | exact ar_e3 (by assumption) | exact ar_e6 (by assumption) | exact ar_e7 (by assumption) | exact ar_e8 (by assumption) | exact ar_s1 (by assumption) | exact ar_w2 (by assumption) | exact ar_n25 (by assumption) | exact ar_n9 (by assumption) (by assumption) | exact ar_n17 (by assumption) (by assumption) | exact ar_n28 (by assumption) (by assumption) | exact ar_e9 (by assumption) (by assumption) | exact ar_e10 (by assumption) (by assumption) | exact ar_e18 (by assumption) (by assumption) | exact ar_s3 (by assumption) (by assumption) | exact ar_n10 (by assumption) (by assumption) (by assumption) | exact ar_n11 (by assumption) (by assumption) (by assumption)) | ((show @LT.lt Int _ _ _); first | exact ar_k9 (by assumption) | exact ar_n18 (by assumption) | exact ar_n19 (by assumption) (by assumption)) | ((show @LE.le Int _ _ _); first | exact Int.natCast_nonneg _) | ((show @Eq Nat _ _); first | exact ar_e11 (by assumption) | exact ar_e12 (by assumption) | exact ar_e13 (by assumption) | exact ar_e15 (by assumption) | exact ar_s2 (by assumption) | exact ar_s4 (by assumption) | exact ar_w6 (by assumption) (by assumption) | exact ar_nn (by assumption)) | ((show @Eq Int _ _); first | exact ar_i5 | exact ar_i6 | exact ar_i7 | exact ar_i8 (by assumption)) | ((show ¬ _); first | exact ar_k5 (by assumption) | exact ar_k6 (by assumption) | exact ar_k11 (by assumption) | exact ar_k12 (by assumption) | exact ar_k14 (by assumption) | exact ar_e14 (by assumption) | exact ar_e16 (by assumption) | exact ar_e20 (by assumption) | exact ar_q1 (by assumption) | exact ar_q2 (by assumption) | exact ar_q3 (by assumption) | exact ar_q4 (by assumption) | exact ar_q5 (by assumption) | exact ar_w7 (by assumption) | exact ar_w8 (by assumption) | exact ar_w14 (by assumption) | exact ar_w16 (by assumption) | exact ar_w18 (by assumption) | exact ar_w19 (by assumption) | exact ar_w20 (by assumption) | exact ar_o3 (by assumption) | exact ar_o4 (by assumption) | exact ar_d (by assumption) (by decide) | exact ar_l1 (by assumption) (by assumption) | exact ar_l2 (by assumption) (by assumption) | exact ar_l3 (by assumption) (by assumption) | exact ar_w17 (by assumption) (by assumption) | exact ar_lv (by assumption) (by assumption) (by assumption) | exact ar_nn2 (by assumption)) | ((show _ ∧ _); first | exact ar_w1 (by assumption) | exact ar_w10 (by assumption) | exact ar_w12 (by assumption) | exact ar_w13 (by assumption) | exact ar_o2 (by assumption) | exact ar_w4 (by assumption) (by assumption) | exact ar_i4 (by assumption) (by assumption)) | ((show _ ∨ _); first | exact ar_o1 (by assumption) | exact ar_w3 (by assumption) (by assumption) | exact ar_w5 (by assumption) (by assumption) | exact ar_w9 (by assumption) (by assumption) | exact ar_w11 (by assumption) (by assumption)) | ((show _ ↔ _); first | exact ar_z3 | exact ar_z4 | exact ar_z5) | ((show False); first | exact (ar_f1 (by assumption) (by assumption) (by assumption)).elim | exact (ar_f2 (by assumption) (by assumption) (by assumption)).elim | exact (ar_c1 (by assumption) (by assumption)).elim | exact (ar_c2 (by assumption) (by assumption)).elim | exact (ar_c3 (by assumption) (by assumption)).elim | exact (ar_c4 (by assumption) (by assumption)).elim | exact (ar_c5 (by assumption) (by assumption)).elim | exact (ar_c7 (by assumption) (by assumption)).elim | exact (ar_c8 (by assumption) (by assumption)).elim | exact (ar_c9 (by assumption) (by assumption)).elim | exact (ar_c10 (by assumption) (by assumption)).elim | exact (ar_c11 (by assumption) (by assumption)).elim | exact (ar_c12 (by assumption) (by assumption)).elim | exact (ar_c13 (by assumption) (by assumption)).elim | exact (ar_f3 (by assumption) (by assumption)).elim | exact (ar_f4 (by assumption) (by assumption)).elim | exact (ar_f5 (by assumption) (by assumption)).elim | exact (ar_f6 (by assumption) (by assumption)).elim | exact (ar_f7 (by assumption) (by assumption)).elim | exact (ar_f8 (by assumption) (by assumption)).elim | exact (ar_f9 (by assumption) (by assumption)).elim | exact (ar_f10 (by assumption) (by assumption)).elim) | ((show @Eq _ _ _); first | exact (ar_f1 (by assumption) (by assumption) (by assumption)).elim | exact (ar_f2 (by assumption) (by assumption) (by assumption)).elim | exact (ar_c1 (by assumption) (by assumption)).elim | exact (ar_c2 (by assumption) (by assumption)).elim | exact (ar_c3 (by assumption) (by assumption)).elim | exact (ar_c4 (by assumption) (by assumption)).elim | exact (ar_c5 (by assumption) (by assumption)).elim | exact (ar_c7 (by assumption) (by assumption)).elim | exact (ar_c8 (by assumption) (by assumption)).elim | exact (ar_c9 (by assumption) (by assumption)).elim | exact (ar_c10 (by assumption) (by assumption)).elim | exact (ar_c11 (by assumption) (by assumption)).elim | exact (ar_c12 (by assumption) (by assumption)).elim | exact (ar_c13 (by assumption) (by assumption)).elim | exact (ar_f3 (by assumption) (by assumption)).elim | exact (ar_f4 (by assumption) (by assumption)).elim | exact (ar_f5 (by assumption) (by assumption)).elim | exact (ar_f6 (by assumption) (by assumption)).elim | exact (ar_f7 (by assumption) (by assumption)).elim | exact (ar_f8 (by assumption) (by assumption)).elim | exact (ar_f9 (by assumption) (by assumption)).elim | exact (ar_f10 (by assumption) (by assumption)).elim) | (intro _; first | exact (ar_f1 (by assumption) (by assumption) (by assumption)).elim | exact (ar_f2 (by assumption) (by assumption) (by assumption)).elim | exact (ar_c1 (by assumption) (by assumption)).elim | exact (ar_c2 (by assumption) (by assumption)).elim | exact (ar_c3 (by assumption) (by assumption)).elim | exact (ar_c4 (by assumption) (by assumption)).elim | exact (ar_c5 (by assumption) (by assumption)).elim | exact (ar_c7 (by assumption) (by assumption)).elim | exact (ar_c8 (by assumption) (by assumption)).elim | exact (ar_c9 (by assumption) (by assumption)).elim | exact (ar_c10 (by assumption) (by assumption)).elim | exact (ar_c11 (by assumption) (by assumption)).elim | exact (ar_c12 (by assumption) (by assumption)).elim | exact (ar_c13 (by assumption) (by assumption)).elim | exact (ar_f3 (by assumption) (by assumption)).elim | exact (ar_f4 (by assumption) (by assumption)).elim | exact (ar_f5 (by assumption) (by assumption)).elim | exact (ar_f6 (by assumption) (by assumption)).elim | exact (ar_f7 (by assumption) (by assumption)).elim | exact (ar_f8 (by assumption) (by assumption)).elim | exact (ar_f9 (by assumption) (by assumption)).elim | exact (ar_f10 (by assumption) (by assumption)).elim) | exact ar_i1 (by assumption) | exact ar_i2 (by assumption) | exact ar_i3 (by assumption) (by decide))
  k_with "MINE enter" => (refine' code_def ?zqk1 ?zqk2 ?zqk3 ?zqk4 ?zqk5 ?zqkA ?zqkF ?zqkK ?zqk6 ?zqk7 ?zqk8 ?zqk9 ?zqkB ?_ ?zqc2 ?zqc3 ?zqc4 ?zqc5; (case zqkA => exact rfl); (case zqkF => exact rfl); (case zqkK => assumption); (case zqk1 => k_asm); (case zqk2 => k_asm); (case zqk3 => k_asm); (case zqk4 => k_asm); (case zqk5 => k_asm); (case zqk6 => k_is); (case zqk7 => k_is); (case zqk8 => ktr_room); (case zqk9 => first | exact BindsTo.of_eq rfl | exact binds_K (by k_in) rfl (by k_is) rfl rfl rfl); (case zqc5 => decide); (case zqkB => exact locs rfl); (case zqc2 => exact rfl); (case zqc3 => exact rfl); (case zqc4 => exact rfl); k_whole; intro g' L' h' FG' F' N' B' X' T'; (try dsimp only); (try k_lift B'); (try k_fold))
  k_with "exec While BoolOp cons nil" => (refine stop ?_)
  k_with "exec While Compare cons nil" => (refine stop ?_)
  k_with "MINE same" => (intro z h2 h3; simp only [List.forall_mem_cons, List.not_mem_nil, false_implies, implies_true, and_true, ne_eq] at h2; (try simp only [List.contains_cons, List.contains_nil, Bool.or_false, Bool.or_eq_false_iff, beq_eq_false_iff_ne, ne_eq] at h3); simp [kstB, h2, h3])
  k_with "KswPost" => (refine stop ?_)
  k_with "subscriptTail Name Name str int" => (k_here; (with_unfolding_all refine' item_a ?zqk0 ?zqk1 ?zqk2 ?zqk3 ?_; (case zqk0 => assumption); (case zqk1 => first | rfl | exact Int.natCast_add _ _ | omega); (case zqk2 => omega); (case zqk3 => omega)); intro hItem')
  k_with "subscriptTail Name BinOp str int" => (k_here; (with_unfolding_all refine' item_a (n := _ + 1) ?zqk0 ?zqk1 ?zqk2 ?zqk3 ?_; (case zqk0 => assumption); (case zqk1 => rfl); (case zqk2 => omega); (case zqk3 => omega)); intro hItem')
  k_with "compareOp Eq str str" => (k_here; first | refine eq_c lit_lt ?_ | refine eq_c lit_gt ?_ | refine eq_c lit_bs ?_ | refine eq_c lit_lp ?_ | refine eq_c lit_rp ?_ | refine eq_c lit_nl ?_ | refine eq_c lit_cr ?_ | refine eq_c lit_del ?_ | refine eq_c lit_nul ?_ | refine eq_c lit_blank ?_)
  k_with "compareOp In str str" => (k_here; first | refine in_c _ (in_ws _) ?_ | refine in_c _ (in_bt _) ?_ | refine in_c _ (in_nr _) ?_ | refine in_c _ (in_bad _) ?_ | refine in_c _ (in_punct _) ?_)
  k_with "call builtin:len" => (k_here; (with_reducible show wpAny _ _ (call (Value.builtin "len") [Value.str _ _]) _ _ _); refine len_c (by omega) ?_)
  k_with "call ref" => (k_here; (with_reducible show wpAny _ _ (call (Value.ref _) _ _) _ _ _); refine stop ?_)
  k_with "MINE room" => ((case B => k_asm); (case F => k_asm); (case X => k_asm); (case N => k_asm); (case T => k_asm); (case hk => first | exact rfl | assumption); (case hd => ktr_room); (case hu => ktr_units))
  k_with "getMethod ref" => (k_here; (with_reducible show wpAny _ _ (getMethod _ (Str.ofString "sub") _) _ _ _); k_dflt (refine' getM ?zqF ?zqX ?zql slot_sub type_sub ?_; (case zqF => k_asm); (case zqX => k_asm); (case zql => k_is)))
  k_with "getMethod ref" => (k_here; (with_reducible show wpAny _ _ (getMethod _ (Str.ofString "match") _) _ _ _); k_dflt (refine' getM ?zqF ?zqX ?zql slot_match type_match ?_; (case zqF => k_asm); (case zqX => k_asm); (case zql => k_is)))
  k_with "callWith ref" => (k_here; k_dflt (refine' callWith_K ?zqk1 ?zqk2 ?_; (case zqk1 => k_asm); (case zqk2 => k_is); k_whole))
  k_with "call builtin:list.append" => (k_here; k_dflt (refine' append_T ?zqF ?zqN ?zql ?zqz ?_; (case zqF => k_asm); (case zqN => k_asm); (case zql => assumption); (case zqz => assumption)); intro h' F' N'; (try k_sweep))
  k_with "getMethod ref" => (k_here; (with_reducible show wpAny _ _ (getMethod _ (Str.ofString "group") _) _ _ _); k_dflt (refine' getMm ?zqN ?zqm ?_; (case zqN => k_asm); (case zqm => k_mem)))
  k_with "call builtin:re.Match.group" => (k_here; k_dflt (refine' group_E ?zqz ?zqN ?zqm ?zqn ?_; (case zqN => k_asm); (case zqm => k_mem); (case zqn => k_mem); (case zqz => omega)); intro tk')
  k_with "truthy str" => (k_here; refine truthy_c (by simp [Array.size_extract]; omega) ?_)
  k_with "binaryOp Add str str" => (k_here; refine add_c (by simp [Array.size_extract, lit_nil]; omega) ?_; intro ta' tka')
  k_with "MINE lam" => (refine' kla_code ?zqk1 ?zqk2 ?zqk3 ?zqk4 ?zqk5 ?zqkA ?zqkF ?zqkK ?zqk6 ?zqk7 ?zqk8 ?zqk9 ?zqkB ?_ ?zqc2 ?zqc3 ?zqc4 ?zqc5; (case zqkA => exact rfl); (case zqkF => exact rfl); (case zqkK => exact rfl); (case zqk1 => k_asm); (case zqk2 => k_asm); (case zqk3 => k_asm); (case zqk4 => k_asm); (case zqk5 => k_asm); (case zqk6 => k_mem); (case zqk7 => exact codeRec_news (by k_asm) (by k_mem) (by assumption) (by assumption)); (case zqk8 => ktr_room); (case zqk9 => exact rfl); (case zqc5 => decide); (case zqkB => exact locs rfl); (case zqc2 => exact rfl); (case zqc3 => exact rfl); (case zqc4 => exact rfl); k_whole; intro g' L' h' FG' F' N' B' X' T'; (try dsimp only); (try k_lift B'); (try k_fold))
  k_with "compareOp NotIn str str" => (k_here; first | refine notin_c _ (in_ws _) ?_ | refine notin_c _ (in_bt _) ?_ | refine notin_c _ (in_nr _) ?_ | refine notin_c _ (in_bad _) ?_ | refine notin_c _ (in_punct _) ?_)
  k_with "ite" => (first | (with_reducible refine ite_ff9 ?_) | (with_reducible refine ite_tt9 ?_))
  k_with "call builtin:str.join" => (k_here; k_dflt (refine' join_c ?zqN ?zqm ?zqs ?zqz ?_; (case zqN => k_asm); (case zqm => k_mem); (case zqs => assumption); (case zqz => assumption)); intro tj' tkj')
  k_with "compareOp NotEq str str" => (k_here; first | refine ne_c lit_lt ?_ | refine ne_c lit_gt ?_ | refine ne_c lit_rp ?_ | refine ne_c lit_lp ?_)
  exact True.intro
theorem take_pick1 {vs : List Value} {k : Nat} : (slicePick vs.toArray none (some ((k : Int) + 1)) none).toList = vs.take (k + 1) := take_pick' (by omega)
theorem sz_ok {vs : List Value} (h : vs.length < 1000) : vs.toArray.size ≤ sizeLine := by rw [sizeLine_eq]; simp; omega
theorem locOf {h₀ h : Heap} {L : Addr} {m : Str → Option Value} (_F : Fr h₀ L h m) : ∃ x : Addr, x = L := ⟨L, rfl⟩
theorem words_s_read3_2 : True := by
  k_with "compareOp NotEq ref ref" => (k_here; k_dflt (first
  | refine ne_nilS_snoc (News.isList (by k_asm) (by k_mem)) (News.isList (by k_asm) (by k_mem)) (by assumption) (by assumption) (by ktr_units) ?_
  | refine ne_nilS (News.isList (by k_asm) (by k_mem)) (News.isList (by k_asm) (by k_mem)) (by first | assumption | exact .nil) (by first | assumption | exact fun _ h => nomatch h) (by ktr_units) ?_))
  k_with "subscriptTail Name UnaryOp ref int" => (k_here; k_dflt (refine item_last (News.isList (by k_asm) (by k_mem)) ?_))
  exact True.intro
theorem esc_lt : ∀ c : Fin 128, c.val ∈ [40, 41, 60, 62, 92, 34, 39] ↔ esc c.val = true := by decide +kernel
theorem esc_mem : ∀ d ∈ [40, 41, 60, 62, 92, 34, 39], d < 128 := by decide +kernel
theorem in_esc (c : Nat) : c ∈ (Str.ofString "()<>\\\"'").cps.toList ↔ esc c = true := by
  rw [show (Str.ofString "()<>\\\"'").cps.toList = [40, 41, 60, 62, 92, 34, 39] from by decide]
  by_cases h : c < 128
  · exact esc_lt ⟨c, h⟩
  · constructor
    · exact fun hm => absurd (esc_mem c hm) h
    · intro he
      unfold esc at he
      simp only [Bool.or_eq_true, beq_iff_eq] at he
      omega
theorem words_s_read3_3 : True := by
  k_with "compareOp In str str" => (k_here; refine in_c _ (in_esc _) ?_)
  k_with "compareOp Eq str str" => (k_here; (with_reducible show wpAny _ _ (compareOp CmpOp.Eq (Value.str (utext _) _) _) _ _ _); first | refine eq_u lit_bs ?_ | refine eq_u lit_lt ?_ | refine eq_u lit_gt ?_ | refine eq_u lit_lp ?_ | refine eq_u lit_rp ?_)
  k_with "setItem ref int" => (k_here; k_dflt (refine' set_last ?zqF ?zqN ?zqU ?_; (case zqF => k_asm); (case zqN => k_asm); (case zqU => k_upd)); intro h' F' N')
  exact True.intro
theorem heapOf {h₀ h : Heap} {L : Addr} {m : Str → Option Value} (_F : Fr h₀ L h m) : ∃ x : Heap, x = h₀ := ⟨h₀, rfl⟩
local macro_rules | `(tactic| walk_at "pyIter str") => `(tactic| (refine stop ?_))
theorem words_s_read3_4 : True := by
  k_with "exec For" => (refine stop ?_)
  k_with "exec For Name Name" => (refine stop ?_)
  exact True.intro
theorem tailN {h₀ h : Heap} {L lU : Addr} {x : Addr × Obj} {pcs : List Value} {ep : Nat} {rest : List (Addr × Obj)} {ys : List Str} (N : News h₀ L h (x :: (lU, listOf pcs.toArray ep) :: rest)) (hs : StrsAre pcs ys) : ∃ pcs' ep', News h₀ L h ((lU, listOf pcs'.toArray ep') :: rest) ∧ StrsAre pcs' ys :=
  ⟨pcs, ep, fun q hq => N q (.tail _ hq), hs⟩
theorem any_ws (v : U) : ([Str.ofString " ", Str.ofString "\n"].any fun x => x == utext v) = v.ws := by
  rw [show Str.ofString " " = ⟨#[32]⟩ from by decide, show Str.ofString "\n" = ⟨#[10]⟩ from by decide]
  cases v with
  | mk e c =>
    cases e with
    | true => simp [utext, U.chars, U.ws]
    | false =>
      simp only [List.any_cons, List.any_nil, Bool.or_false]
      show (((⟨#[32]⟩ : Str) == ⟨#[c]⟩) || ((⟨#[10]⟩ : Str) == ⟨#[c]⟩)) = _
      rw [one_eq, one_eq]
      rw [Bool.eq_iff_iff]; simp [U.ws]; omega
theorem words_s_read3_5 : True := by
  k_with "call builtin:len" => (k_here; (with_reducible show wpAny _ _ (call (Value.builtin "len") [Value.ref _]) _ _ _); k_dflt (refine len_l (News.isList (by k_asm) (by k_mem)) (by assumption) (by first | assumption | omega) ?_))
  k_with "subscriptTail Name Name ref int" => (k_here; k_dflt (refine item_at (News.isList (by k_asm) (by k_mem)) (by assumption) (by first | assumption | omega) ?_))
  exact True.intro
theorem any_ang (v : U) : ([Str.ofString "<", Str.ofString ">", Str.ofString "\n"].any fun x => x == utext v) = (v.is 60 || v.is 62 || v.is 10) := by
  rw [show Str.ofString "<" = ⟨#[60]⟩ from by decide, show Str.ofString ">" = ⟨#[62]⟩ from by decide, show Str.ofString "\n" = ⟨#[10]⟩ from by decide]
  cases v with
  | mk e c =>
    cases e with
    | true => simp [utext, U.chars, U.is]
    | false =>
      simp only [List.any_cons, List.any_nil, Bool.or_false]
      show (((⟨#[60]⟩ : Str) == ⟨#[c]⟩) || (((⟨#[62]⟩ : Str) == ⟨#[c]⟩) || ((⟨#[10]⟩ : Str) == ⟨#[c]⟩))) = _
      rw [one_eq, one_eq, one_eq]
      rw [Bool.eq_iff_iff]; simp [U.is]; omega
theorem utext_ne {v : U} {n : Nat} {y : Str} (hy : y = ⟨#[n]⟩) : (utext v != y) = !v.is n := by
  subst hy
  cases v with
  | mk e c =>
    cases e with
    | true => simp [utext, U.chars, U.is, bne]
    | false =>
      show (!((⟨#[c]⟩ : Str) == ⟨#[n]⟩)) = !(c == n)
      rw [one_eq c n]
theorem words_s_read3_6 : True := by
  k_with "MINE inv" => (
    rename News _ _ _ _ => N8
    try simp only [List.push_toArray] at N8
    obtain ⟨pcs9, ep9, N9, hs9⟩ := tailN N8 (hend _)
    unfold InvEndN KstS
    refine ⟨_, _, _, _, (lU, listOf pcs9.toArray ep9) :: news, rfl, by assumption, N9, ?_, ?_, rfl, (pcs9, ep9), rfl, trivial, ?_, ?_, ?_⟩
    · intro p hp
      rcases List.mem_cons.mp hp with rfl | hp
      · simp only [List.mem_cons, true_or, or_true]
      · simp only [List.mem_cons, List.mem_append, hp, true_or, or_true]
    · intro p hp
      simp only [List.mem_cons, List.mem_append, hp, true_or, or_true]
    · exact fun _ h => nomatch h
    · intro z h1 h2 h3
      simp [kstB, h1]
    · dsimp only
      rw [List.map_append, List.map_singleton, Int.toNat_natCast]
      exact hs9)
  exact True.intro
theorem any_op (v : U) : ([Str.ofString "(", Str.ofString "\"", Str.ofString "'"].any fun x => x == utext v) = isOp v := by
  rw [show Str.ofString "(" = ⟨#[40]⟩ from by decide, show Str.ofString "\"" = ⟨#[34]⟩ from by decide, show Str.ofString "'" = ⟨#[39]⟩ from by decide]
  cases v with
  | mk e c =>
    cases e with
    | true => simp [utext, U.chars, isOp, U.is]
    | false =>
      simp only [List.any_cons, List.any_nil, Bool.or_false]
      show (((⟨#[40]⟩ : Str) == ⟨#[c]⟩) || (((⟨#[34]⟩ : Str) == ⟨#[c]⟩) || ((⟨#[39]⟩ : Str) == ⟨#[c]⟩))) = _
      rw [one_eq, one_eq, one_eq]
      rw [Bool.eq_iff_iff]; simp [isOp, U.is]; omega
theorem op_e {v : U} (h : ([Str.ofString "(", Str.ofString "\"", Str.ofString "'"].any fun x => x == utext v) = true) : v.e = false := by
  rw [any_op] at h
  cases v with
  | mk e c => cases e <;> simp_all [isOp, U.is]
theorem ne_uu {prog : Program} {w : World} {A : Around} {E : Value → Shared → Prop} {s : Shared} {u v : U} {t1 t2 : Tok} {Q : Value → Shared → Prop} (hv : v.e = false) (h : Q (.bool (!u.is v.c)) s) : wpAny (model prog w) A (compareOp .NotEq (.str (utext u) t1) (.str (utext v) t2)) Q E s := by
  have e : utext v = ⟨#[v.c]⟩ := by
    cases v with
    | mk e c => cases hv; rfl
  rw [e]
  exact ne_u rfl h
theorem behind_no {rT : List U} (h : (dropWs rT).length = rT.length ∨ ∀ v r, dropWs rT = v :: r → isOp v = false) : behind rT = ending (dropWs rT) [] := by
  unfold behind
  cases hd : dropWs rT with
  | nil => rfl
  | cons v r =>
    dsimp only
    rw [if_neg]
    rintro ⟨h1, h2⟩
    rcases h with h | h
    · rw [hd] at h; omega
    · rw [h v r hd] at h2; cases h2
theorem behind_op {rT r : List U} {v : U} (hd : dropWs rT = v :: r) (hl : (v :: r).length < rT.length) (ho : isOp v = true) : behind rT = match title v.c r with | some (t, r3) => ending (dropWs r3) t | none => none := by
  unfold behind
  rw [hd]
  dsimp only
  rw [if_pos ⟨hl, ho⟩]
  all_goals rfl
theorem okU_part {us a b : List U} {n : Nat} (h : ∀ y ∈ us.map utext, PyData.strOk y = true) (e : us.drop n = a ++ b) : ∀ y ∈ a.map utext, PyData.strOk y = true := by
  intro y hy
  obtain ⟨u, hu, rfl⟩ := List.mem_map.mp hy
  have : u ∈ us.drop n := by rw [e]; exact List.mem_append_left _ hu
  exact h _ (List.mem_map.mpr ⟨u, List.mem_of_mem_drop this, rfl⟩)
theorem words_s_read3_7 : True := by
  k_with "compareOp NotEq str str" => (k_here; (with_reducible show wpAny _ _ (compareOp CmpOp.NotEq (Value.str (utext _) _) _) _ _ _); first | refine ne_uu (op_e (by assumption)) ?_ | refine ne_u lit_rp ?_ | refine ne_u lit_lp ?_ | refine ne_u lit_gt ?_)
  exact True.intro
theorem closer_lp {v : U} (h : v.is 40 = true) : closer v.c = 41 := by
  have : v.c = 40 := by cases v with | mk e c => simp [U.is] at h; exact h.2
  rw [this]; rfl
theorem closer_no {v : U} (he : v.e = false) (h : v.is 40 = false) : closer v.c = v.c := by
  have : v.c ≠ 40 := by
    cases v with
    | mk e c => cases he; simpa [U.is] using h
  unfold closer
  rw [if_neg this]
theorem c40_of {v : U} (h : v.is 40 = true) : v.c = 40 := by cases v with | mk e c => simp [U.is] at h; exact h.2
theorem c40_no {v : U} (he : v.e = false) (h : v.is 40 = false) : v.c ≠ 40 := by
  cases v with
  | mk e c => cases he; simpa [U.is] using h
theorem words_s_read3_8 : True := by
  k_with "eval ListComp" => (refine stop ?_)
  k_with "exec Assign cons ListComp" => (refine stop ?_)
  k_with "subscriptTail Name UnaryOp str int" => (k_here; (with_reducible show wpAny _ _ (subscriptTail _ _ (Value.str (utext _) _) (Value.int (-1) _)) _ _ _); refine item_l ?_)
  k_with "call builtin:dict.get" => (k_here; (with_reducible show wpAny _ _ (call (Value.builtin "dict.get") [Value.ref _, Value.str _ _, Value.str _ _]) _ _ _); k_dflt (refine' call_get2_strTab (D := pctD) ?zqT ?zqfl ?_; (case zqT => exact TabAt.ofNews (by k_asm) (by k_mem) (by assumption) (by assumption) (by assumption)); (case zqfl => exact PyProof.V.Flat.str _ _)); intro v' hv'; obtain ⟨t', ht'⟩ := get_pct hv'; subst ht')
  exact True.intro
theorem ending_yes {v : U} {r t : List U} (h : v.is 41 = true) : ending (v :: r) t = some (t, r) := by unfold ending; simp [h]
theorem ending_no {v : U} {r t : List U} (h : v.is 41 = false) : ending (v :: r) t = none := by unfold ending; simp [h]
theorem words_s_read3_9 : True := by
  k_with "subscriptTail Name Slice ref ref" => (k_here; (with_reducible show wpAny _ _ (subscriptTail _ (PySem.Expr.Slice none (some _) none _) (Value.ref _) (Value.ref _)) _ _ _); k_dflt (refine' kmk_slice_lit ?zqF ?zqN ?zql ?zqp ?zqq ?zqe ?_ ?zqs ?zqt ?zqz; (case zqF => k_asm); (case zqN => k_asm); (case zql => exact News.isList (by k_asm) (by k_mem)); (case zqp => exact IsPart.none); (case zqq => exact IsPart.int _ _); (case zqe => exact take_pick1); (case zqs => with_unfolding_all rfl); (case zqt => kmk_pure); (case zqz => exact sz_ok (by assumption))); intro D' h' F' N' l1; (try k_lt l1); (try k_sweep))
  exact True.intro
theorem objOf {prog : Program} {w : World} {o : Obj} {kvs : List (Str × Value)} (_h : Obj.IsDictOf (PySem.strKind prog w) o kvs) : ∃ x : Obj, x = o := ⟨o, rfl⟩

/-- a state with these names and these objects -/
def JoinG (g0 : Heap) (L : Addr) (s : Shared) (ps : List (Str × Value)) (led : List (Addr × Obj)) (s' : Shared) : Prop :=
  ∃ (h : Heap) (tk : Nat) (u : Str → Option Value), s' = { s with heap := h, toks := tk } ∧ Fr g0 L h (kstB u ps) ∧ News g0 L h led
theorem joinG {g0 : Heap} {L : Addr} {s : Shared} {ps : List (Str × Value)} {led all : List (Addr × Obj)} {h : Heap} {tk : Nat} {m : Str → Option Value} (F : Fr g0 L h m) (N : News g0 L h all) (hsub : ∀ q ∈ led, q ∈ all) (hm : ∀ p ∈ ps, m p.1 = some p.2) :
    JoinG g0 L s ps led { s with heap := h, toks := tk } := ⟨h, tk, m, rfl, joinFr F hm, fun q hq => N q (hsub q hq)⟩
def JoinMark : Prop := True
def JoinMark2 : Prop := True
def JoinMark3 : Prop := True
theorem words_s_read3_10 : True := by
  k_with "exec If" => ((fail_if_success (rename JoinMark => jm)); (with_reducible show wpAny _ _ (exec (Stmt.If (Expr.Compare (Expr.Subscript (Expr.Name _ _) (Expr.Name _ _) _) [CmpOp.Eq] _ _) _ _ _) _) _ _ _); refine stop ?_)
  k_with "exec If BoolOp cons nil" => ((fail_if_success (rename JoinMark2 => jm)); (with_reducible show wpAny _ _ (exec (Stmt.If (Expr.BoolOp BoolOp.And [_, _, _] _) _ _ _) _) _ _ _); refine stop ?_)
  k_with "exec If" => ((fail_if_success (rename JoinMark3 => jm)); (with_reducible show wpAny _ _ (exec (Stmt.If (Expr.Compare (Expr.Name _ _) [CmpOp.NotEq] [Expr.List _ _] _) _ _ _) _) _ _ _); refine stop ?_)
  k_with "MINE sub" => (
    intro q hq
    repeat (rcases List.mem_cons.mp hq with rfl | hq; (simp only [List.mem_cons, true_or, or_true]))
    simp only [List.mem_cons, hq, or_true])
  k_with "MINE rNone" => (
    refine hPr _ _ ?_
    k_steps
    walk_at "MINE rEnd")
  k_with "MINE rEnd" => (
    rename News h₀ L _ _ => N15
    refine hret _ [_] _ _ (by assumption) (fun q hq => N15 q (by rcases List.mem_cons.mp hq with rfl | hq; exact .head _; have hq' : q ∈ news := hq; simp only [List.mem_cons, hq', or_true])) (fun q hq p hp => ?_) ⟨_, rfl, ?_⟩
    · rw [List.mem_singleton.mp hp]
      first
        | (rename (_ < _ ∧ _ < _ ∧ _ < _ ∧ _ < _ ∧ _ < _ ∧ AllLt _ news) => l15; exact ktn_ltOf l15.2.2.2.2.2 q hq)
        | (rename (_ < _ ∧ _ < _ ∧ _ < _ ∧ _ < _ ∧ AllLt _ news) => l15; exact ktn_ltOf l15.2.2.2.2 q hq)
        | (rename (_ < _ ∧ _ < _ ∧ _ < _ ∧ AllLt _ news) => l15; exact ktn_ltOf l15.2.2.2 q hq)
        | (rename (_ < _ ∧ _ < _ ∧ AllLt _ news) => l15; exact ktn_ltOf l15.2.2 q hq)
        | (rename (_ < _ ∧ AllLt _ news) => l15; exact ktn_ltOf l15.2 q hq)
    rw [eR])
  exact True.intro
/-- a while over blanks, from the units `r` at the place `k` -/
theorem words_s_read3_11 : True := by
  k_with "MINE blanks" => (
    rintro R9 ⟨k2, t2, us2⟩ u2 h2 tk2 hR9 ⟨hd2, hw2, hk2⟩ F8 N8
    dsimp only at hd2 hw2 hk2 F8 N8
    have hk2000 : k2 < 1000 := by omega)
  k_with "MINE bturn" => (
    refine hR9 _ _ ?_
    dsimp only [KswPost]
    rename (List.any _ _ = true) => hq2
    rw [any_ws] at hq2
    rename News _ _ _ _ => nE'
    refine ksw_end ⟨k2 + 1, _, r2⟩ (by assumption) nE' (fun p hp => .tail _ hp) trivial (by kst_all) (by walk_at "MINE same") ⟨hd2', by rw [← hw2, dropWs_cons_ws hq2], hk3⟩ (by dsimp only; omega))
  k_with "MINE tloop" => (
    refine unstop ?_
    rename Fr _ _ _ _ => F9
    rename News _ _ _ _ => N9
    refine ksw_abs (σ := Nat × Tok × List U × List U × List Value × Nat) (fun c => (lT, listOf c.2.2.2.2.1.toArray c.2.2.2.2.2) :: (lG, listOf gs.toArray eg) :: (lU, listOf pcs.toArray ep) :: news) (fun c => [("k", .int c.1 c.2.1)]) []
      (fun c => us.drop c.1 = c.2.2.2.1 ∧ title v3.c r3 = (title v3.c c.2.2.2.1).map (fun q => (c.2.2.1 ++ q.1, q.2)) ∧ StrsAre c.2.2.2.2.1 (c.2.2.1.map utext) ∧ c.2.2.1.length ≤ c.1 ∧ c.1 ≤ us.length) (fun c => us.length - c.1) (k3 + 1, _, [], r3, [], 0) F9 (fun q hq => N9 q (.tail _ hq)) (by kst_all) ⟨hd9, by simp, .nil, Nat.zero_le _, hk9⟩ ?_
    rintro R9 ⟨k4, t4, pre, us4, ts, et⟩ u4 h4 tk4 hR9 ⟨hd4, ha4, hg4, hgl4, hk4⟩ F10 N10
    dsimp only at hd4 ha4 hg4 hgl4 hk4 F10 N10
    have hgl5' := hg4.length
    rw [List.length_map] at hgl5'
    have hgl6 : ts.length < 1000 := by omega
    have hk4000 : k4 < 1000 := by omega)
  k_with "MINE tnil" => (
    have hk4' : us.length ≤ k4 := List.drop_eq_nil_iff.mp hd4
    have eR : read us = none := by
      rw [eD5 _ (behind_op hdw hlB hoB), ha4]
      rfl
    try k_fold
    k_steps
    all_goals walk_at "MINE rNone")
  k_with "MINE tcons" => (
    obtain ⟨hk4', hx4, hd4'⟩ := drop_cons hd4
    obtain ⟨tx4, hy4⟩ := hP.get k4 (utext v4) (by rw [List.getElem?_map, hx4]; rfl)
    try k_fold
    k_steps)
  k_with "MINE tturn" => (
    refine hR9 _ _ ?_
    dsimp only [KswPost]
    have hne : v4.is (closer v3.c) = false := by rw [hcl]; assumption
    have hop : ¬ (v3.c = 40 ∧ v4.is 40 = true) := by
      first
        | (have h4 : v4.is 40 = false := by assumption
           rintro ⟨_, h⟩
           rw [h4] at h
           cases h)
        | exact fun h => hc40 h.1
    rename News _ _ _ _ => nE'
    refine ksw_end ⟨k4 + 1, _, pre ++ [v4], r4, ts ++ [_], et + 1⟩ (by assumption) nE' (fun p hp => hp) trivial (by kst_all) (by walk_at "MINE same") ⟨hd4', ?_, ?_, by simp; omega, hk4'⟩ (by dsimp only; omega)
    · dsimp only
      rw [ha4, title_cons, if_neg (by simp [hne]), if_neg hop]
      cases title v3.c r4 <;> simp
    · dsimp only
      rw [List.map_append]
      exact hg4.append' (.cons _ _ .nil))
  k_with "MINE tnone" => (
    have hne : v4.is (closer v3.c) = false := by rw [hcl]; assumption
    have h4 : v4.is 40 = true := by assumption
    have eR : read us = none := by
      rw [eD5 _ (behind_op hdw hlB hoB), ha4, title_cons, if_neg (by simp [hne]), if_pos ⟨hc40, h4⟩]
      rfl
    walk_at "MINE rNone")
  k_with "MINE tskip" => (
    have hcT : v4.is (closer v3.c) = true := by rw [hcl]; assumption
    have eT : title v3.c r3 = some (pre, r4) := by
      rw [ha4, title_cons, if_pos hcT]
      simp
    have hokP : ∀ y ∈ pre.map utext, PyData.strOk y = true := by
      obtain ⟨q, hq⟩ := title_split _ _ _ _ eT
      exact okU_part hokU (by rw [← hd9] at hq; exact hq)
    have eB : ∀ r, dropWs r4 = r → behind rT = ending r pre := by
      intro r hr
      rw [behind_op hdw hlB hoB, eT]
      dsimp only
      rw [hr]
    refine unstop ?_
    rename Fr _ _ _ _ => F11
    rename News _ _ _ _ => N11
    refine ksw_abs (σ := Nat × Tok × List U) (fun _ => (lT, listOf ts.toArray et) :: (lG, listOf gs.toArray eg) :: (lU, listOf pcs.toArray ep) :: news) (fun c => [("k", .int c.1 c.2.1)]) [] (fun c => us.drop c.1 = c.2.2 ∧ dropWs c.2.2 = dropWs r4 ∧ c.1 ≤ us.length) (fun c => us.length - c.1) (k4 + 1, _, r4) F11 N11 (by kst_all) ⟨hd4', rfl, hk4'⟩ ?_
    rintro R7 ⟨k6, t6, us6⟩ u6 h6 tk6 hR7 ⟨hd6, hw6, hk6⟩ F12 N12
    dsimp only at hd6 hw6 hk6 F12 N12)
  k_with "MINE snil" => (
    have hk7 : us.length ≤ k6 := List.drop_eq_nil_iff.mp hd6
    have hB : behind rT = ending (us.drop k6) pre := eB _ (by rw [← hw6, hd6]; rfl)
    try k_fold
    k_steps
    rename Fr _ _ _ _ => F13
    rename News _ _ _ _ => N13
    exact hPo _ ⟨k6, _, ts, et, pre, hB, hk6, hg4, by omega, hokP, joinG F13 N13 (by walk_at "MINE sub") (by kst_all)⟩)
  k_with "MINE scons" => (
    obtain ⟨hk7, hx6, hd6'⟩ := drop_cons hd6
    obtain ⟨tx6, hy6⟩ := hP.get k6 (utext v6) (by rw [List.getElem?_map, hx6]; rfl)
    have hk6000 : k6 < 1000 := by omega
    try k_fold
    k_steps)
  k_with "MINE sturn" => (
    refine hR7 _ _ ?_
    dsimp only [KswPost]
    rename (List.any _ _ = true) => hq6
    rw [any_ws] at hq6
    rename News _ _ _ _ => nE'
    refine ksw_end ⟨k6 + 1, _, r6⟩ (by assumption) nE' (fun p hp => .tail _ hp) trivial (by kst_all) (by walk_at "MINE same") ⟨hd6', by rw [← hw6, dropWs_cons_ws hq6], hk7⟩ (by dsimp only; omega))
  k_with "MINE sexit" => (
    rename (List.any _ _ = false) => hq6
    rw [any_ws] at hq6
    have hB : behind rT = ending (us.drop k6) pre := eB _ (by rw [← hw6, hd6, dropWs_cons_no hq6])
    rename Fr _ _ _ _ => F13
    rename News _ _ _ _ => N13
    exact hPo _ ⟨k6, _, ts, et, pre, hB, hk6, hg4, by omega, hokP, joinG F13 N13 (by walk_at "MINE sub") (by kst_all)⟩)
  k_with "MINE rDone" => (
    rename News h₀ L _ _ => N15
    refine hret _ [_, (lD, od)] _ _ (by assumption) (fun q hq => N15 q (by rcases List.mem_cons.mp hq with rfl | hq; exact .head _; rcases List.mem_cons.mp hq with rfl | hq; (simp only [List.mem_cons, true_or, or_true]); have hq' : q ∈ news := hq; simp only [List.mem_cons, hq', or_true])) (fun q hq p hp => ?_) ⟨_, rfl, ?_⟩
    · rcases List.mem_cons.mp hp with rfl | hp
      · rename (_ < _ ∧ _ < _ ∧ _ < _ ∧ AllLt _ news) => l15
        exact ktn_ltOf l15.2.2.2 q hq
      · rw [List.mem_singleton.mp hp]
        exact ktn_ltOf lD0.2.2.2 q hq
    rw [eR])
  exact True.intro
set_option maxHeartbeats 8000000 in
theorem read_spec {w : World} {p : Program} {loose : List Str} {mean : ExcName → Option Value} {mg mb : Str → Option Value} {src : Str} {st : Tok} {us us0 : List U}
   (hA : At src 0 us) (hsz20 : src.cps.size ≤ 20) (hal : Alpha src) (hz : us = us0 ++ [⟨false, 122⟩]) :
   SpecOf w p loose mean mg mb 147 12 [.str src st] (fun tl r => ∃ a, r = .ref a ∧ match read us with
     | none => tl = [(a, tupObj [.none, .none])]
     | some (g, t, rest) => ∃ (d : Addr) (od : Obj) (n : Nat) (t1 : Tok), tl = [(a, tupObj [.ref d, .int n t1]), (d, od)] ∧ LinkDict w od g t ∧ n + (flat rest).length = src.cps.size) := by
  unfold SpecOf
  k_fill
  intro dp un gd cn cs a ccd cl outer A₀ base h₀ L m news s Q E B F X N T hk hd hu hret
  have hus : tok ((KStt.codes src).map Int.toNat) = us := by
    rw [codes_map, ← hA.tok]
    rfl
  have hul : us.length ≤ 20 := by
    have := tok_len src.cps.toList
    rw [← hA.tok]
    simp at this ⊢
    omega
  refine wpAny_call ?_
  k_dflt walk_at "MINE enter"
  k_steps
  refine unstop ?_
  rename Fr _ _ _ _ => F0
  obtain ⟨g0, hg0⟩ := heapOf F0
  subst hg0
  obtain ⟨L1, hL1⟩ := locOf F0
  subst hL1
  rename (∀ p ∈ news, p.1 < _) => lU0
  rename News _ _ _ _ => N0
  obtain ⟨lU, hlt⟩ := addrOf N0
  subst hlt
  have hlU : ∀ q ∈ news, q.1 ≠ lU := fun q hq => Nat.ne_of_lt (lU0 q hq)
  refine cutA (fun s' => ∃ pcs ep, StrsAre pcs (us.map utext) ∧ JoinG g0 L1 s [("units", .ref lU)] ((lU, listOf pcs.toArray ep) :: news) s') ?_ ?_
  · intro Po hPo hPr
    k_dflt (refine For_invV g0 (by rfl) (by rfl) ?_)
    k_steps
    refine unstop ?_
    rename Fr _ _ _ _ => F1
    rename News _ _ _ _ => N1
    refine KStt.kst_text (σ := List Value × Nat) (fun c => (lU, listOf c.1.toArray c.2) :: news) (fun c => []) (fun _ => True) [] (fun pre c => StrsAre c.1 ((tok (pre.map Int.toNat)).map utext)) ([], 0) (by rfl) F1 N1 trivial (by kst_all) .nil ?_ ?_
    · rintro ⟨pcs, ep⟩ pre post n t u h tk own e hoff _ hP F2 N2
      dsimp only at hP F2 N2
      have hsp := codes_split e
      have hmem : ∀ c ∈ pre.map Int.toNat ++ n :: post.map Int.toNat, alpha c := by rw [← hsp]; exact alpha_mem hal
      have hnal : alpha n := hmem n (by simp)
      have hok := utext_ok (cs := pre.map Int.toNat) fun c hc => alpha_lt (hmem c (List.mem_append_left _ hc))
      have hlen : (pre.map Int.toNat).length ≤ 20 := by
        have := congrArg List.length hsp
        simp at this ⊢
        omega
      have htl := tok_len (pre.map Int.toNat)
      have hpl : pcs.length < 1000 := by
        have := hP.length
        rw [List.length_map] at this
        omega
      have hlo : ∀ q ∈ news ++ own, q.1 ≠ lU := by
        intro q hq
        rcases List.mem_append.mp hq with h | h
        · exact hlU q h
        · exact hoff q h _ (.head _)
      rw [List.cons_append] at N2
      have hsn := tok_snoc (pre.map Int.toNat) n
      have hcd := F2
      rcases List.eq_nil_or_concat (tok (pre.map Int.toNat)) with h0 | ⟨us1, u1, h0⟩
      · rw [h0] at hP hsn
        cases hP
        have hend : ∀ tk : Tok, StrsAre ([] ++ [.str ⟨#[n]⟩ tk]) ((tok (pre.map Int.toNat ++ [n])).map utext) := by
          intro tk
          rcases hsn with ⟨us2, h1, _⟩ | ⟨_, h2⟩
          · simp at h1
          · rw [h2]; exact .cons _ _ .nil
        k_steps
        walk_at "MINE inv"
      · rw [List.concat_eq_append] at h0
        rw [h0] at hP hok hsn
        rw [List.map_append, List.map_singleton] at hP hok
        obtain ⟨qs, tq, rfl, hqs⟩ := strs_last hP
        k_steps
        · have hend : ∀ tk : Tok, StrsAre (qs ++ [.str (Str.ofString "\\" ++ ⟨#[n]⟩) tk]) ((tok (pre.map Int.toNat ++ [n])).map utext) := by
            intro tk
            have hu : u1 = ⟨false, 92⟩ := by
              have h92 : u1.is 92 = true := by assumption
              cases u1 with
              | mk e c => simp [U.is] at h92; rw [h92.1, h92.2]
            rcases hsn with ⟨us2, h1, _, h3⟩ | ⟨h1, _⟩
            · have h4 := (List.append_inj' h1 rfl).1
              rw [h3, ← h4, List.map_append]
              refine hqs.append' ?_
              have e1 : (Str.ofString "\\" ++ ⟨#[n]⟩ : Str) = utext ⟨true, n⟩ := by rw [lit_bs]; rfl
              rw [e1]
              exact .cons _ _ .nil
            · exact absurd ⟨us1, by rw [hu], by assumption⟩ h1
          walk_at "MINE inv"
        all_goals (
          have hend : ∀ tk : Tok, StrsAre ((qs ++ [.str (utext u1) tq]) ++ [.str ⟨#[n]⟩ tk]) ((tok (pre.map Int.toNat ++ [n])).map utext) := by
            intro tk
            rcases hsn with ⟨us2, h1, h2, _⟩ | ⟨_, h2⟩
            · exfalso
              have h4 := (List.cons.inj (List.append_inj' h1 rfl).2).1
              first
                | (have h5 : ¬ esc n = true := by assumption
                   exact h5 h2)
                | (have h5 : u1.is 92 = false := by assumption
                   rw [h4] at h5
                   exact absurd h5 (by decide))
            · rw [h2, List.map_append, List.map_append]
              exact hP.append' (.cons _ _ .nil)
          walk_at "MINE inv")
    · rintro ⟨pcs, ep⟩ u h tk _ hP F2 N2
      dsimp only at hP F2 N2
      rw [hus] at hP
      exact hPo _ ⟨pcs, ep, hP, joinG F2 N2 (fun _ h => h) (by kst_all)⟩
  · rintro s1 ⟨pcs, ep, hP, h1, tk1, u1, rfl, F1, N1⟩
    have hPl := hP.length
    rw [List.length_map] at hPl
    have hpl : pcs.length < 1000 := by omega
    k_steps
    refine unstop ?_
    refine cutA (fun s' => ∃ k t v r, us.drop k = v :: r ∧ v :: r = dropWs us ∧ v.ws = false ∧ JoinG g0 L1 s [("k", .int (k : Nat) t), ("units", .ref lU)] ((lU, listOf pcs.toArray ep) :: news) s') ?_ ?_
    · intro Po hPo hPr
      rename Fr _ _ _ _ => F3
      rename News _ _ _ _ => N3
      refine ksw_abs (σ := Nat × Tok × List U) (fun _ => (lU, listOf pcs.toArray ep) :: news) (fun c => [("k", .int c.1 c.2.1)]) [] (fun c => us.drop c.1 = c.2.2 ∧ dropWs c.2.2 = dropWs us ∧ ∃ r, c.2.2 = r ++ [⟨false, 122⟩]) (fun c => us.length - c.1) (0, _, us) F3 N3 (by kst_all) ⟨rfl, rfl, us0, hz⟩ ?_
      rintro R9 ⟨k, t1, us1⟩ u1 h1 tk1 hR9 ⟨hd1, hw1, hz1⟩ F4 N4
      dsimp only at hd1 hw1 hz1 F4 N4
      obtain ⟨v1, r1, rfl⟩ : ∃ v r, us1 = v :: r := by
        obtain ⟨r, rfl⟩ := hz1
        cases r with
        | nil => exact ⟨_, _, rfl⟩
        | cons v r => exact ⟨v, _, rfl⟩
      obtain ⟨hk1, hx1, hd1'⟩ := drop_cons hd1
      obtain ⟨tx1, hy1⟩ := hP.get k (utext v1) (by rw [List.getElem?_map, hx1]; rfl)
      have hk1000 : k < 1000 := by omega
      try k_fold
      k_steps
      · refine hR9 _ _ ?_
        dsimp only [KswPost]
        rename (List.any _ _ = true) => hw
        rw [any_ws] at hw
        rename News _ _ _ _ => nE'
        refine ksw_end ⟨k + 1, _, r1⟩ (by assumption) nE' (fun p hp => .tail _ hp) trivial (by kst_all) (by walk_at "MINE same") ⟨hd1', by rw [← hw1, dropWs_cons_ws hw], ?_⟩ (by dsimp only; omega)
        obtain ⟨r, hr⟩ := hz1
        cases r with
        | nil =>
          have := (List.cons.inj hr).1
          rw [this] at hw
          exact absurd hw (by decide)
        | cons v r => exact ⟨r, (List.cons.inj hr).2⟩
      · rename (List.any _ _ = false) => hw
        rw [any_ws] at hw
        rw [dropWs_cons_no hw] at hw1
        rename Fr _ _ _ _ => F9
        rename News _ _ _ _ => N9
        exact hPo _ ⟨k, _, v1, r1, hd1, hw1, hw, joinG F9 N9 (by walk_at "MINE sub") (by kst_all)⟩
    · rintro s2 ⟨k, t, v1, r1, hd1, hw1, hw, h2, tk2, u2, rfl, F2, N2⟩
      obtain ⟨hk1, hx1, hd1'⟩ := drop_cons hd1
      obtain ⟨tx1, hy1⟩ := hP.get k (utext v1) (by rw [List.getElem?_map, hx1]; rfl)
      have hk1000 : k < 1000 := by omega
      k_steps
      refine unstop ?_
      rename Fr _ _ _ _ => F5
      rename News _ _ _ _ => N5
      rename (lU < _ ∧ AllLt _ news) => lG0
      obtain ⟨lG, hlt⟩ := addrOf N5
      subst hlt
      have hlG : ∀ q ∈ (lU, listOf pcs.toArray ep) :: news, q.1 ≠ lG := by
        intro q hq
        rcases List.mem_cons.mp hq with rfl | hq
        · exact Nat.ne_of_lt lG0.1
        · exact Nat.ne_of_lt (ktn_ltOf lG0.2 q hq)
      refine cutA (fun s' => ∃ k t gT rT gs eg, us.drop k = rT ∧ k ≤ us.length ∧ dest (dropWs us) = some (gT, rT) ∧ StrsAre gs (gT.map utext) ∧ gT.length ≤ 20 ∧ JoinG g0 L1 s [("k", .int (k : Nat) t), ("goal", .ref lG), ("units", .ref lU)] ((lG, listOf gs.toArray eg) :: (lU, listOf pcs.toArray ep) :: news) s') ?_ ?_
      · intro Po hPo hPr
        have jm : JoinMark := trivial
        k_steps
        · refine unstop ?_
          have h60 : v1.is 60 = true := by assumption
          have eD : dest (dropWs us) = angle r1 := by
            rw [← hw1]
            show (if v1.is 60 = true then _ else _) = _
            rw [if_pos h60]
          rename Fr _ _ _ _ => F5
          rename News _ _ _ _ => N5
          refine ksw_abs (σ := Nat × Tok × List U × List U × List Value × Nat) (fun c => (lG, listOf c.2.2.2.2.1.toArray c.2.2.2.2.2) :: (lU, listOf pcs.toArray ep) :: news) (fun c => [("k", .int c.1 c.2.1)]) []
            (fun c => us.drop c.1 = c.2.2.2.1 ∧ angle r1 = (angle c.2.2.2.1).map (fun q => (c.2.2.1 ++ q.1, q.2)) ∧ StrsAre c.2.2.2.2.1 (c.2.2.1.map utext) ∧ c.2.2.1.length ≤ c.1 ∧ c.1 ≤ us.length) (fun c => us.length - c.1) (k + 1, _, [], r1, [], 0) F5 N5 (by kst_all) ⟨hd1', by simp, .nil, Nat.zero_le _, hk1⟩ ?_
          rintro R9 ⟨k2, t2, pre, us2, gs, eg⟩ u2 h2 tk2 hR9 ⟨hd2, ha2, hg2, hgl, hk2⟩ F6 N6
          dsimp only at hd2 ha2 hg2 hgl hk2 F6 N6
          have hgl2 := hg2.length
          rw [List.length_map] at hgl2
          have hgl3 : gs.length < 1000 := by omega
          have hk2000 : k2 < 1000 := by omega
          cases us2 with
          | nil =>
            have hk3 : us.length ≤ k2 := List.drop_eq_nil_iff.mp hd2
            have eR : read us = none := by
              unfold read
              rw [eD, ha2]
              rfl
            try k_fold
            k_steps
            · walk_at "MINE rNone"
            · walk_at "MINE rNone"
          | cons v2 r2 =>
            obtain ⟨hk3, hx2, hd2'⟩ := drop_cons hd2
            obtain ⟨tx2, hy2⟩ := hP.get k2 (utext v2) (by rw [List.getElem?_map, hx2]; rfl)
            try k_fold
            k_steps
            · exfalso; omega
            · have eX : dest (dropWs us) = some (pre, r2) := by
                have hq3 : v2.is 62 = true := by assumption
                rw [eD, ha2, angle_cons, if_pos hq3]
                simp
              rename Fr _ _ _ _ => F9
              rename News _ _ _ _ => N9
              exact hPo _ ⟨k2 + 1, _, pre, r2, gs, eg, hd2', hk3, eX, hg2, by omega, joinG F9 N9 (by walk_at "MINE sub") (by kst_all)⟩
            · have eR : read us = none := by
                rename (List.any _ _ = true) => hq2
                have hq3 : v2.is 62 = false := by assumption
                rw [any_ang] at hq2
                rw [hq3, Bool.or_false] at hq2
                unfold read
                rw [eD, ha2, angle_cons, if_neg (by simp [hq3]), if_pos hq2]
                rfl
              walk_at "MINE rNone"
            · refine hR9 _ _ ?_
              dsimp only [KswPost]
              rename (List.any _ _ = false) => hq2
              rw [any_ang] at hq2
              simp only [Bool.or_eq_false_iff] at hq2
              rename News _ _ _ _ => nE'
              try simp only [List.push_toArray] at nE'
              refine ksw_end ⟨k2 + 1, _, pre ++ [v2], r2, gs ++ [_], eg + 1⟩ (by assumption) nE' (fun p hp => .tail _ hp) trivial (by kst_all) (by walk_at "MINE same") ⟨hd2', ?_, ?_, by simp; omega, hk3⟩ (by dsimp only; omega)
              · dsimp only
                rw [ha2, angle_cons, if_neg (by simp [hq2.1.2]), if_neg (by simp [hq2.1.1, hq2.2])]
                cases angle r2 <;> simp
              · dsimp only
                rw [List.map_append]
                exact hg2.append' (.cons _ _ .nil)
        · refine unstop ?_
          have h60 : v1.is 60 = false := by assumption
          have eD : dest (dropWs us) = href 0 (v1 :: r1) := by
            rw [← hw1]
            show (if v1.is 60 = true then _ else _) = _
            rw [if_neg (by simp [h60])]
          rename Fr _ _ _ _ => F5
          rename News _ _ _ _ => N5
          refine ksw_abs (σ := Nat × Tok × Nat × Tok × List U × List U × List Value × Nat) (fun c => (lG, listOf c.2.2.2.2.2.2.1.toArray c.2.2.2.2.2.2.2) :: (lU, listOf pcs.toArray ep) :: news) (fun c => [("k", .int c.1 c.2.1), ("deep", .int c.2.2.1 c.2.2.2.1)]) []
            (fun c => us.drop c.1 = c.2.2.2.2.2.1 ∧ href 0 (v1 :: r1) = (href c.2.2.1 c.2.2.2.2.2.1).map (fun q => (c.2.2.2.2.1 ++ q.1, q.2)) ∧ StrsAre c.2.2.2.2.2.2.1 (c.2.2.2.2.1.map utext) ∧ c.2.2.2.2.1.length ≤ c.1 ∧ c.1 ≤ us.length ∧ c.2.2.1 ≤ c.1) (fun c => us.length - c.1) (k, _, 0, _, [], v1 :: r1, [], 0) F5 N5 (by kst_all) ⟨hd1, by simp, .nil, Nat.zero_le _, Nat.le_of_lt hk1, Nat.zero_le _⟩ ?_
          rintro R9 ⟨k2, t2, lev, t3, pre, us2, gs, eg⟩ u2 h2 tk2 hR9 ⟨hd2, ha2, hg2, hgl, hk2, hlv⟩ F6 N6
          dsimp only at hd2 ha2 hg2 hgl hk2 hlv F6 N6
          have hgl2 := hg2.length
          rw [List.length_map] at hgl2
          have hgl3 : gs.length < 1000 := by omega
          have hk2000 : k2 < 1000 := by omega
          cases us2 with
          | nil =>
            have hk3 : us.length ≤ k2 := List.drop_eq_nil_iff.mp hd2
            try k_fold
            k_steps
            · have eR : read us = none := by
                unfold read
                rw [eD, ha2]
                unfold href
                rw [if_neg (by omega)]
                rfl
              walk_at "MINE rNone"
            · have eX : dest (dropWs us) = some (pre, []) := by
                rw [eD, ha2]
                unfold href
                rw [if_pos (by omega)]
                simp
              rename Fr _ _ _ _ => F9
              rename News _ _ _ _ => N9
              exact hPo _ ⟨k2, _, pre, _, gs, eg, hd2, hk2, eX, hg2, by omega, joinG F9 N9 (by walk_at "MINE sub") (by kst_all)⟩
          | cons v2 r2 =>
            obtain ⟨hk3, hx2, hd2'⟩ := drop_cons hd2
            obtain ⟨tx2, hy2⟩ := hP.get k2 (utext v2) (by rw [List.getElem?_map, hx2]; rfl)
            try k_fold
            k_steps
            all_goals (rename (List.any _ _ = _) => hq2; rw [any_ws] at hq2)
            · have eR : read us = none := by
                unfold read
                rw [eD, ha2, href_cons, if_pos hq2, if_neg (by omega)]
                rfl
              walk_at "MINE rNone"
            · have eX : dest (dropWs us) = some (pre, v2 :: r2) := by
                rw [eD, ha2, href_cons, if_pos hq2, if_pos (by omega)]
                simp
              rename Fr _ _ _ _ => F9
              rename News _ _ _ _ => N9
              exact hPo _ ⟨k2, _, pre, _, gs, eg, hd2, hk2, eX, hg2, by omega, joinG F9 N9 (by walk_at "MINE sub") (by kst_all)⟩
            · exfalso; omega
            · have eX : dest (dropWs us) = some (pre, v2 :: r2) := by
                have h41 : v2.is 41 = true := by assumption
                obtain rfl : lev = 0 := by omega
                rw [eD, ha2, href_cons, if_neg (by simp [hq2]), if_pos h41]
                simp
              rename Fr _ _ _ _ => F9
              rename News _ _ _ _ => N9
              exact hPo _ ⟨k2, _, pre, _, gs, eg, hd2, hk2, eX, hg2, by omega, joinG F9 N9 (by walk_at "MINE sub") (by kst_all)⟩
            · exfalso
              have h1 : v2.is 41 = true := by assumption
              have h2 : v2.is 40 = true := by assumption
              simp [U.is] at h1 h2
              omega
            · refine hR9 _ _ ?_
              dsimp only [KswPost]
              obtain ⟨lv, rfl⟩ : ∃ lv, lev = lv + 1 := ⟨lev - 1, by omega⟩
              have h41 : v2.is 41 = true := by assumption
              rename Fr _ _ _ _ => F8
              have elv : ((lv + 1 : Nat) : Int) + -1 = (lv : Int) := by omega
              simp only [elv] at F8
              rename News _ _ _ _ => nE'
              try simp only [List.push_toArray] at nE'
              refine ksw_end ⟨k2 + 1, _, lv, _, pre ++ [v2], r2, gs ++ [_], eg + 1⟩ (by assumption) nE' (fun p hp => .tail _ hp) trivial (by kst_all) (by walk_at "MINE same") ⟨hd2', ?_, ?_, by simp; omega, hk3, by dsimp only; omega⟩ (by dsimp only; omega)
              · dsimp only
                rw [ha2, href_cons, if_neg (by simp [hq2]), if_pos h41]
                dsimp only
                cases href lv r2 <;> simp
              · dsimp only
                rw [List.map_append]
                exact hg2.append' (.cons _ _ .nil)
            · refine hR9 _ _ ?_
              dsimp only [KswPost]
              have h41 : v2.is 41 = false := by assumption
              have h40 : v2.is 40 = true := by assumption
              rename News _ _ _ _ => nE'
              try simp only [List.push_toArray] at nE'
              refine ksw_end ⟨k2 + 1, _, (lev + 1), _, pre ++ [v2], r2, gs ++ [_], eg + 1⟩ (by assumption) nE' (fun p hp => .tail _ hp) trivial (by kst_all) (by walk_at "MINE same") ⟨hd2', ?_, ?_, by simp; omega, hk3, by dsimp only; omega⟩ (by dsimp only; omega)
              · dsimp only
                rw [ha2, href_cons, if_neg (by simp [hq2]), if_neg (by simp [h41]), if_pos h40]
                cases href (lev + 1) r2 <;> simp
              · dsimp only
                rw [List.map_append]
                exact hg2.append' (.cons _ _ .nil)
            · refine hR9 _ _ ?_
              dsimp only [KswPost]
              have h41 : v2.is 41 = false := by assumption
              have h40 : v2.is 40 = false := by assumption
              rename Fr _ _ _ _ => F8
              simp only [Int.add_zero] at F8
              rename News _ _ _ _ => nE'
              try simp only [List.push_toArray] at nE'
              refine ksw_end ⟨k2 + 1, _, lev, _, pre ++ [v2], r2, gs ++ [_], eg + 1⟩ (by assumption) nE' (fun p hp => .tail _ hp) trivial (by kst_all) (by walk_at "MINE same") ⟨hd2', ?_, ?_, by simp; omega, hk3, by dsimp only; omega⟩ (by dsimp only; omega)
              · dsimp only
                rw [ha2, href_cons, if_neg (by simp [hq2]), if_neg (by simp [h41]), if_neg (by simp [h40])]
                cases href lev r2 <;> simp
              · dsimp only
                rw [List.map_append]
                exact hg2.append' (.cons _ _ .nil)
      · rintro s3 ⟨k, t, gT, rT, gs, eg, hd5, hk5, he5, hg5, hgl5, h3, tk3, u3, rfl, F3, N3⟩
        clear hd1 hw1 hx1 hd1' hy1 hk1 hk1000 hw
        have hgsl := hg5.length
        rw [List.length_map] at hgsl
        have hk1000' : k < 1000 := by omega
        have hokU : ∀ y ∈ us.map utext, PyData.strOk y = true := by
          have := utext_ok (cs := src.cps.toList) fun c hc => alpha_lt (alpha_mem hal c hc)
          rw [← hA.tok]
          exact this
        have eD5 : ∀ e, behind rT = e → read us = e.map fun p => (gT, p.1, p.2) := by
          intro e he
          unfold read
          rw [he5]
          dsimp only
          rw [he]
        k_steps
        refine unstop ?_
        rename Fr _ _ _ _ => F7
        rename News _ _ _ _ => N7
        rename (lG < _ ∧ lU < _ ∧ AllLt _ news) => lT0
        obtain ⟨lT, hlt⟩ := addrOf N7
        subst hlt
        have hlT : ∀ q ∈ (lG, listOf gs.toArray eg) :: (lU, listOf pcs.toArray ep) :: news, q.1 ≠ lT := by
          intro q hq
          rcases List.mem_cons.mp hq with rfl | hq
          · exact Nat.ne_of_lt lT0.1
          rcases List.mem_cons.mp hq with rfl | hq
          · exact Nat.ne_of_lt lT0.2.1
          · exact Nat.ne_of_lt (ktn_ltOf lT0.2.2 q hq)
        refine cutA (fun s' => ∃ k3 t3, us.drop k3 = dropWs rT ∧ k3 ≤ us.length ∧ JoinG g0 L1 s [("k", .int (k3 : Nat) t3), ("title", .ref lT), ("goal", .ref lG), ("units", .ref lU), ("apart", .int (k : Nat) t)] ((lT, listOf ([] : List Value).toArray 0) :: (lG, listOf gs.toArray eg) :: (lU, listOf pcs.toArray ep) :: news) s') ?_ ?_
        · intro Po hPo hPr
          refine ksw_abs (σ := Nat × Tok × List U) (fun _ => (lT, listOf ([] : List Value).toArray 0) :: (lG, listOf gs.toArray eg) :: (lU, listOf pcs.toArray ep) :: news) (fun c => [("k", .int c.1 c.2.1)]) [] (fun c => us.drop c.1 = c.2.2 ∧ dropWs c.2.2 = dropWs rT ∧ c.1 ≤ us.length) (fun c => us.length - c.1) (k, _, rT) F7 N7 (by kst_all) ⟨hd5, rfl, hk5⟩ ?_
          walk_at "MINE blanks"
          cases us2 with
          | nil =>
            have hk3 : us.length ≤ k2 := List.drop_eq_nil_iff.mp hd2
            try k_fold
            k_steps
            have hwX : us.drop k2 = dropWs rT := by rw [← hw2]; exact hd2
            rename Fr _ _ _ _ => F9
            rename News _ _ _ _ => N9
            exact hPo _ ⟨k2, _, hwX, hk2, joinG F9 N9 (by walk_at "MINE sub") (by kst_all)⟩
          | cons v2 r2 =>
            obtain ⟨hk3, hx2, hd2'⟩ := drop_cons hd2
            obtain ⟨tx2, hy2⟩ := hP.get k2 (utext v2) (by rw [List.getElem?_map, hx2]; rfl)
            try k_fold
            k_steps
            · walk_at "MINE bturn"
            · rename (List.any _ _ = false) => hq2
              rw [any_ws] at hq2
              rw [dropWs_cons_no hq2] at hw2
              have hwX : us.drop k2 = dropWs rT := by rw [← hw2]; exact hd2
              rename Fr _ _ _ _ => F9
              rename News _ _ _ _ => N9
              exact hPo _ ⟨k2, _, hwX, hk2, joinG F9 N9 (by walk_at "MINE sub") (by kst_all)⟩
        · rintro s4 ⟨k3, t3, hd8, hk8, h4, tk4, u4, rfl, F4, N4⟩
          have hlr : rT.length = us.length - k := by rw [← hd5, List.length_drop]
          have hlw : (dropWs rT).length = us.length - k3 := by rw [← hd8, List.length_drop]
          have hk3000 : k3 < 1000 := by omega
          k_steps
          refine unstop ?_
          refine cutA (fun s' => ∃ k t ts et tT, behind rT = ending (us.drop k) tT ∧ k ≤ us.length ∧ StrsAre ts (tT.map utext) ∧ tT.length ≤ 20 ∧ (∀ y ∈ tT.map utext, PyData.strOk y = true) ∧ JoinG g0 L1 s [("k", .int (k : Nat) t), ("title", .ref lT), ("goal", .ref lG), ("units", .ref lU)] ((lT, listOf ts.toArray et) :: (lG, listOf gs.toArray eg) :: (lU, listOf pcs.toArray ep) :: news) s') ?_ ?_
          · intro Po hPo hPr
            have jm2 : JoinMark2 := trivial
            cases hdw : dropWs rT with
            | nil =>
              rw [hdw] at hd8
              have hk9 : us.length ≤ k3 := List.drop_eq_nil_iff.mp hd8
              have hB : behind rT = ending (us.drop k3) [] := by rw [behind_no (.inr (fun v r h => by rw [hdw] at h; cases h)), hdw, hd8]
              k_steps
              rename Fr _ _ _ _ => F9
              rename News _ _ _ _ => N9
              exact hPo _ ⟨k3, _, [], 0, [], hB, hk8, .nil, Nat.zero_le _, (fun _ h => nomatch h), joinG F9 N9 (by walk_at "MINE sub") (by kst_all)⟩
            | cons v3 r3 =>
              rw [hdw] at hd8 hlw
              obtain ⟨hk9, hx9, hd9⟩ := drop_cons hd8
              obtain ⟨tx9, hy9⟩ := hP.get k3 (utext v3) (by rw [List.getElem?_map, hx9]; rfl)
              k_steps
              · rename (List.any _ _ = true) => hq3
                have ho3 := op_e hq3
                rw [any_op] at hq3
                have hlB : (v3 :: r3).length < rT.length := ar_z2 hlw hlr (by assumption) hk9
                have hoB : isOp v3 = true := hq3
                have hcl : closer v3.c = 41 := closer_lp (by assumption)
                have hc40 : v3.c = 40 := c40_of (by assumption)
                walk_at "MINE tloop"
                cases us4 with
                | nil => walk_at "MINE tnil"
                | cons v4 r4 =>
                  walk_at "MINE tcons"
                  · exfalso; omega
                  · walk_at "MINE tskip"
                    cases us6 with
                    | nil => walk_at "MINE snil"
                    | cons v6 r6 =>
                      walk_at "MINE scons"
                      · walk_at "MINE sturn"
                      · walk_at "MINE sexit"
                  · exfalso; omega
                  · walk_at "MINE tnone"
                  · walk_at "MINE tturn"
              · rename (List.any _ _ = true) => hq3
                have ho3 := op_e hq3
                have hlB : (v3 :: r3).length < rT.length := ar_z2 hlw hlr (by assumption) hk9
                have hoB : isOp v3 = true := by rw [← any_op]; exact hq3
                have hcl : closer v3.c = v3.c := closer_no ho3 (by assumption)
                have hc40 : v3.c ≠ 40 := c40_no ho3 (by assumption)
                walk_at "MINE tloop"
                cases us4 with
                | nil => walk_at "MINE tnil"
                | cons v4 r4 =>
                  walk_at "MINE tcons"
                  · exfalso; omega
                  · walk_at "MINE tskip"
                    cases us6 with
                    | nil => walk_at "MINE snil"
                    | cons v6 r6 =>
                      walk_at "MINE scons"
                      · walk_at "MINE sturn"
                      · walk_at "MINE sexit"
                  · walk_at "MINE tturn"
              · rename (List.any _ _ = false) => hq3
                rw [any_op] at hq3
                have hB : behind rT = ending (us.drop k3) [] := by
                  rw [behind_no (.inr (fun v r h => by rw [hdw] at h; cases h; exact hq3)), hdw, hd8]
                rename Fr _ _ _ _ => F9
                rename News _ _ _ _ => N9
                exact hPo _ ⟨k3, _, [], 0, [], hB, hk8, .nil, Nat.zero_le _, (fun _ h => nomatch h), joinG F9 N9 (by walk_at "MINE sub") (by kst_all)⟩
              · have hB : behind rT = ending (us.drop k3) [] := by
                  have hle9 := dropWs_len rT
                  rw [hdw] at hle9
                  rw [behind_no (.inl (by rw [hdw]; exact ar_z1 hlw hlr (by assumption) hle9)), hdw, hd8]
                rename Fr _ _ _ _ => F9
                rename News _ _ _ _ => N9
                exact hPo _ ⟨k3, _, [], 0, [], hB, hk8, .nil, Nat.zero_le _, (fun _ h => nomatch h), joinG F9 N9 (by walk_at "MINE sub") (by kst_all)⟩
          · rintro s9 ⟨k5, t5, ts, et, tT, hB, hk9, hts, htl, hokT, h9, tk9, u9, rfl, F9, N9⟩
            clear hd8 hk8 hlr hlw hk3000 hd5 hk5 hk1000'
            have eB : ∀ e, ending (us.drop k5) tT = e → read us = e.map fun p => (gT, p.1, p.2) := fun e he => eD5 e (hB.trans he)
            clear eD5 hB he5
            have hk5000 : k5 < 1000 := by omega
            have htsl := hts.length
            rw [List.length_map] at htsl
            clear F7 N7 F4 N4
            cases hdk : us.drop k5 with
            | nil =>
              have hk8' : us.length ≤ k5 := List.drop_eq_nil_iff.mp hdk
              have eR : read us = none := (eB none (by rw [hdk]; rfl)).trans rfl
              k_steps
              all_goals walk_at "MINE rEnd"
            | cons v9 r9 =>
              obtain ⟨hk8', hx9, hd9⟩ := drop_cons hdk
              obtain ⟨tx9, hy9⟩ := hP.get k5 (utext v9) (by rw [List.getElem?_map, hx9]; rfl)
              k_steps
              · exfalso; omega
              · have h41 : v9.is 41 = true := by assumption
                have eR : read us = some (gT, tT, r9) := (eB (some (tT, r9)) (by rw [hdk, ending_yes h41])).trans rfl
                rename (lT < _ ∧ lG < _ ∧ lU < _ ∧ AllLt _ news) => lD0
                rename News _ _ _ _ => N10
                obtain ⟨lD, hlt⟩ := addrOf N10
                subst hlt
                refine unstop ?_
                have hnum : (cat ((us.map utext).take (k5 + 1))).toArray.size + (flat r9).length = src.cps.size := by
                  rw [List.size_toArray, ← List.map_take, cat_utext, ← hd9, ← List.length_append, ← flat_append, List.take_append_drop]
                  rw [← hA.tok, tok_flat]
                  simp
                clear eB hdk hx9 hy9 hd9
                k_dflt (refine LCg.ListComp_U (F₀ := by k_asm) (by rfl) (by decide) (by rfl) (by decide) (by rfl) ?_)
                k_steps
                refine LCg.CompSrc.ledger (by rfl) (by k_asm) (by k_asm) (show (lG, listOf gs.toArray eg) ∈ _ by k_mem) (by rw [sizeLine_eq]; simp; omega) (fun g2 => ?_)
                refine rest_list (fun u => ⟨(pctc u.c).toArray⟩) hg5 ?_ ?_
                · intro u tu I oI C oC D m₂ ys h tk E' hu hC hx F2 N2 off ne
                  k_steps
                  refine unstop ?_
                  k_dflt (refine' SpecOf.use pct_spec ?B ?F ?X ?N ?T ?hk ?hd ?hu ?_; walk_at "MINE room")
                  rintro r10 tl10 h10 tk10 F10 N11 l10 ⟨a10, od10, kvs10, rfl, rfl, lo10, hd10, hf10⟩
                  simp only [List.cons_append, List.nil_append] at N11
                  try k_fold
                  k_steps
                  exact LCg.CompEnd.intro (by k_asm) (by k_asm) _ (fun p hp => .tail _ hp) off (.inr ⟨_, by k_mem, rfl, _, rfl⟩) ⟨rfl, _, rfl⟩
                · intro ys hys
                  have hcz : (cat (gT.map fun u => (⟨(pctc u.c).toArray⟩ : Str))).length < 1000 := by
                    rw [cat_pct]
                    have := pctc_len (plain gT)
                    have h2 : (plain gT).length = gT.length := by simp [plain]
                    omega
                  have hlD : ∀ q ∈ (lT, listOf ts.toArray et) :: (lG, listOf gs.toArray eg) :: (lU, listOf pcs.toArray ep) :: news, q.1 ≠ lD := by
                    intro q hq
                    rcases List.mem_cons.mp hq with rfl | hq
                    · exact Nat.ne_of_lt lD0.1
                    rcases List.mem_cons.mp hq with rfl | hq
                    · exact Nat.ne_of_lt lD0.2.1
                    rcases List.mem_cons.mp hq with rfl | hq
                    · exact Nat.ne_of_lt lD0.2.2.1
                    · exact Nat.ne_of_lt (ktn_ltOf lD0.2.2.2 q hq)
                  intro D4 h4 tk4 F4 N4 o4
                  have hD4 : @Ne Nat lD D4 := o4.1
                  k_steps
                  refine unstop ?_
                  rename Obj.IsDictOf _ _ _ => hdA
                  rename PyProof.V.FlatPairs _ _ _ => hfA
                  refine cutA (fun s' => ∃ od, LinkDict w od gT tT ∧ JoinG g0 L1 s [("attrs", .ref lD), ("k", .int (k5 : Nat) t5), ("units", .ref lU)] ((lD, od) :: (lU, listOf pcs.toArray ep) :: news) s') ?_ ?_
                  · intro Po hPo hPr
                    have jm3 : JoinMark3 := trivial
                    k_steps
                    · rename (¬ List.map utext tT = []) => htn
                      have htn' : tT ≠ [] := fun h => htn (by rw [h]; rfl)
                      have hczL : (cat (tT.map fun u => (⟨#[u.c]⟩ : Str))).length < 1000 := by
                        rw [cat_last]
                        simp [plain]
                        omega
                      refine unstop ?_
                      k_dflt (refine LCg.ListComp_U (F₀ := by k_asm) (by rfl) (by decide) (by rfl) (by decide) (by rfl) ?_)
                      k_steps
                      refine LCg.CompSrc.ledger (by rfl) (by k_asm) (by k_asm) (show (lT, listOf ts.toArray et) ∈ _ by k_mem) (by rw [sizeLine_eq]; simp; omega) (fun g3 => ?_)
                      refine rest_list (fun u => ⟨#[u.c]⟩) hts ?_ ?_
                      · intro u tu I oI C oC D m₂ ys2 h tk E' hu hC hx F2 N2 off ne
                        k_steps
                        exact LCg.CompEnd.intro (by k_asm) (by k_asm) _ (fun p hp => hp) off (.inr ⟨_, by k_mem, rfl, _, rfl⟩) ⟨rfl, _, rfl⟩
                      · intro ys2 hys2
                        intro D5 h5 tk5 F5' N5' o5
                        have hD5 : @Ne Nat lD D5 := o5.2.2.1
                        k_steps
                        rename Obj.IsDictOf _ _ _ => hdB
                        rename PyProof.V.FlatPairs _ _ _ => hfB
                        rw [cat_pct, cat_last] at hdB hfB
                        rename Fr _ _ _ _ => F9
                        rename News _ _ _ _ => N9
                        exact hPo _ ⟨_, link_two hdB hfB htn', joinG F9 N9 (by walk_at "MINE sub") (by kst_all)⟩
                    · rename (¬ ¬ List.map utext tT = []) => htn
                      have htn' : tT = [] := by
                        have := Classical.not_not.mp htn
                        cases tT with
                        | nil => rfl
                        | cons a b => cases this
                      rw [cat_pct] at hdA hfA
                      rename Fr _ _ _ _ => F9
                      rename News _ _ _ _ => N9
                      exact hPo _ ⟨_, link_one hdA hfA htn', joinG F9 N9 (by walk_at "MINE sub") (by kst_all)⟩
                  · rintro s10 ⟨od, hL, h10, tk10, u10, rfl, F10, N10⟩
                    clear hdA hfA hlD o4
                    have hTk := hP.take' (k5 + 1)
                    have hczT : (cat ((us.map utext).take (k5 + 1))).length < 1000 := by
                      rw [List.size_toArray] at hnum
                      omega
                    k_steps
                    walk_at "MINE rDone"
                    exact ⟨_, _, _, _, rfl, hL, hnum⟩
              · have h41 : v9.is 41 = false := by assumption
                have eR : read us = none := (eB none (by rw [hdk, ending_no h41])).trans rfl
                walk_at "MINE rEnd"

end
section
theorem words_s_law_1 : True := by
  k_with_none
  w_top off
  k_with "MINE ar" => (with_reducible first | assumption | decide | ((show @LT.lt Nat _ _ _); first | exact ar_n1 (by assumption) | exact ar_n2 (by assumption) | exact ar_n6 (by assumption) | exact ar_n12 (by assumption) | exact ar_n13 (by assumption) | exact ar_k1 (by assumption) | exact ar_k2 (by assumption) | exact ar_k3 (by assumption) | exact ar_k4 (by assumption) | exact ar_k8 (by assumption) | exact ar_m1 (by assumption) | exact ar_m2 (by assumption) | exact ar_m3 (by assumption) | exact ar_m4 (by assumption) | exact ar_m5 (by assumption) | exact ar_e4 (by assumption) | exact ar_e5 (by assumption) | exact ar_r1 (by assumption) | exact Nat.lt_succ_self _ | exact ar_r2 (by assumption) (by decide) | exact ar_r3 (by assumption) (by decide) | exact ar_n7 (by assumption) (by assumption) | exact ar_n8 (by assumption) (by assumption) | exact ar_n16 (by assumption) (by assumption) | exact ar_n20 (by assumption) (by assumption) | exact ar_n21 (by assumption) (by assumption) | exact ar_n23 (by assumption) (by assumption) | exact ar_n24 (by assumption) (by assumption) | exact ar_e17 (by assumption) (by assumption) | exact ar_e19 (by assumption) (by assumption) | exact ar_n14 (by assumption) (by assumption) (by assumption) | exact ar_n26 (by assumption) (by assumption) (by assumption) | exact ar_n27 (by assumption) (by assumption) (by assumption) | exact ar_n15 (by assumption) (by assumption) (by assumption) (by assumption) | exact ar_n22 (by assumption) (by assumption) (by assumption) (by assumption)) | ((show @LE.le Nat _ _ _); first | exact Nat.le_refl _ | exact Nat.le_add_right _ _ | exact ar_n3 (by assumption) | exact ar_n4 (by assumption) | exact ar_n5 (by assumption) | exact ar_k7 (by assumption) | exact ar_k10 (by assumption) | exact ar_k13 (by assumption) | exact ar_e1 (by assumption) | exact ar_e2 (by assumption) | exact ar_e3 (by assumption) | exact ar_e6 (by assumption) | exact ar_e7 (by assumption) | exact ar_e8 (by assumption) | exact ar_s1 (by assumption) | exact ar_w2 (by assumption) | exact ar_n25 (by assumption) | exact ar_n9 (by assumption) (by assumption) | exact ar_n17 (by assumption) (by assumption) | exact ar_n28 (by assumption) (by assumption) | exact ar_e9 (by assumption) (by assumption) | exact ar_e10 (by assumption) (by assumption) | exact ar_e18 (by assumption) (by assumption) | exact ar_s3 (by assumption) (by assumption) | exact ar_n10 (by assumption) (by assumption) (by assumption) | exact ar_n11 (by assumption) (by assumption) (by assumption)) | ((show @LT.lt Int _ _ _); first | exact ar_k9 (by assumption) | exact ar_n18 (by assumption) | exact ar_n19 (by assumption) (by assumption)) | ((show @LE.le Int _ _ _); first | exact Int.natCast_nonneg _) | ((show @Eq Nat _ _); first | exact ar_e11 (by assumption) | exact ar_e12 (by assumption) | exact ar_e13 (by assumption) | exact ar_e15 (by assumption) | exact ar_s2 (by assumption) | exact ar_s4 (by assumption) | exact ar_w6 (by assumption) (by assumption) | exact ar_nn (by assumption)) | ((show @Eq Int _ _); first | exact ar_i5 | exact ar_i6 | exact ar_i7 | exact ar_i8 (by assumption)) | ((show ¬ _); first | exact ar_k5 (by assumption) | exact ar_k6 (by assumption) | exact ar_k11 (by assumption) | exact ar_k12 (by assumption) | exact ar_k14 (by assumption) | exact ar_e14 (by assumption) | exact ar_e16 (by assumption) | exact ar_e20 (by assumption) | exact ar_q1 (by assumption) | exact ar_q2 (by assumption) | exact ar_q3 (by assumption) | exact ar_q4 (by assumption) | exact ar_q5 (by assumption) | exact ar_w7 (by assumption) | exact ar_w8 (by assumption) | exact ar_w14 (by assumption) | exact ar_w16 (by assumption) | exact ar_w18 (by assumption) | exact ar_w19 (by assumption) | exact ar_w20 (by assumption) | exact ar_o3 (by assumption) | exact ar_o4 (by assumption) | exact ar_d (by assumption) (by decide) | exact ar_l1 (by assumption) (by assumption) | exact ar_l2 (by assumption) (by assumption) | exact ar_l3 (by assumption) (by assumption) | exact ar_w17 (by assumption) (by assumption) | exact ar_lv (by assumption) (by assumption) (by assumption) | exact ar_nn2 (by assumption)) | ((show _ ∧ _); first | exact ar_w1 (by assumption) | exact ar_w10 (by assumption) | exact ar_w12 (by assumption) | exact ar_w13 (by assumption) | exact ar_o2 (by assumption) | exact ar_w4 (by assumption) (by assumption) | exact ar_i4 (by assumption) (by assumption)) | ((show _ ∨ _); first | exact ar_o1 (by assumption) | exact ar_w3 (by assumption) (by assumption) | exact ar_w5 (by assumption) (by assumption) | exact ar_w9 (by assumption) (by assumption) | exact ar_w11 (by assumption) (by assumption)) | ((show _ ↔ _); first | exact ar_z3 | exact ar_z4 | exact ar_z5) | ((show False); first | exact (ar_f1 (by assumption) (by assumption) (by assumption)).elim | exact (ar_f2 (by assumption) (by assumption) (by assumption)).elim | exact (ar_c1 (by assumption) (by assumption)).elim | exact (ar_c2 (by assumption) (by assumption)).elim | exact (ar_c3 (by assumption) (by assumption)).elim | exact (ar_c4 (by assumption) (by assumption)).elim | exact (ar_c5 (by assumption) (by assumption)).elim | exact (ar_c7 (by assumption) (by assumption)).elim | exact (ar_c8 (by assumption) (by assumption)).elim | exact (ar_c9 (by assumption) (by assumption)).elim | exact (ar_c10 (by assumption) (by assumption)).elim | exact (ar_c11 (by assumption) (by assumption)).elim | exact (ar_c12 (by assumption) (by assumption)).elim | exact (ar_c13 (by assumption) (by assumption)).elim | exact (ar_f3 (by assumption) (by assumption)).elim | exact (ar_f4 (by assumption) (by assumption)).elim | exact (ar_f5 (by assumption) (by assumption)).elim | exact (ar_f6 (by assumption) (by assumption)).elim | exact (ar_f7 (by assumption) (by assumption)).elim | exact (ar_f8 (by assumption) (by assumption)).elim | exact (ar_f9 (by assumption) (by assumption)).elim | exact (ar_f10 (by assumption) (by assumption)).elim) | ((show @Eq _ _ _); first | exact (ar_f1 (by assumption) (by assumption) (by assumption)).elim | exact (ar_f2 (by assumption) (by assumption) (by assumption)).elim | exact (ar_c1 (by assumption) (by assumption)).elim | exact (ar_c2 (by assumption) (by assumption)).elim | exact (ar_c3 (by assumption) (by assumption)).elim | exact (ar_c4 (by assumption) (by assumption)).elim | exact (ar_c5 (by assumption) (by assumption)).elim | exact (ar_c7 (by assumption) (by assumption)).elim | exact (ar_c8 (by assumption) (by assumption)).elim | exact (ar_c9 (by assumption) (by assumption)).elim | exact (ar_c10 (by assumption) (by assumption)).elim | exact (ar_c11 (by assumption) (by assumption)).elim | exact (ar_c12 (by assumption) (by assumption)).elim | exact (ar_c13 (by assumption) (by assumption)).elim | exact (ar_f3 (by assumption) (by assumption)).elim | exact (ar_f4 (by assumption) (by assumption)).elim | exact (ar_f5 (by assumption) (by assumption)).elim | exact (ar_f6 (by assumption) (by assumption)).elim | exact (ar_f7 (by assumption) (by assumption)).elim | exact (ar_f8 (by assumption) (by assumption)).elim | exact (ar_f9 (by assumption) (by assumption)).elim | exact (ar_f10 (by assumption) (by assumption)).elim) | (intro _; first | exact (ar_f1 (by assumption) (by assumption) (by assumption)).elim | exact (ar_f2 (by assumption) (by assumption) (by assumption)).elim | exact (ar_c1 (by assumption) (by assumption)).elim | exact (ar_c2 (by assumption) (by assumption)).elim | exact (ar_c3 (by assumption) (by assumption)).elim | exact (ar_c4 (by assumption) (by assumption)).elim | exact (ar_c5 (by assumption) (by assumption)).elim | exact (ar_c7 (by assumption) (by assumption)).elim | exact (ar_c8 (by assumption) (by assumption)).elim | exact (ar_c9 (by assumption) (by assumption)).elim | exact (ar_c10 (by assumption) (by assumption)).elim | exact (ar_c11 (by assumption) (by assumption)).elim | exact (ar_c12 (by assumption) (by assumption)).elim | exact (ar_c13 (by assumption) (by assumption)).elim | exact (ar_f3 (by assumption) (by assumption)).elim | exact (ar_f4 (by assumption) (by assumption)).elim | exact (ar_f5 (by assumption) (by assumption)).elim | exact (ar_f6 (by assumption) (by assumption)).elim | exact (ar_f7 (by assumption) (by assumption)).elim | exact (ar_f8 (by assumption) (by assumption)).elim | exact (ar_f9 (by assumption) (by assumption)).elim | exact (ar_f10 (by assumption) (by assumption)).elim) | exact ar_i1 (by assumption) | exact ar_i2 (by assumption) | exact ar_i3 (by assumption) (by decide))
  k_with "MINE enter" => (refine' code_def ?zqk1 ?zqk2 ?zqk3 ?zqk4 ?zqk5 ?zqkA ?zqkF ?zqkK ?zqk6 ?zqk7 ?zqk8 ?zqk9 ?zqkB ?_ ?zqc2 ?zqc3 ?zqc4 ?zqc5; (case zqkA => exact rfl); (case zqkF => exact rfl); (case zqkK => assumption); (case zqk1 => k_asm); (case zqk2 => k_asm); (case zqk3 => k_asm); (case zqk4 => k_asm); (case zqk5 => k_asm); (case zqk6 => k_is); (case zqk7 => k_is); (case zqk8 => ktr_room); (case zqk9 => first | exact BindsTo.of_eq rfl | exact binds_K (by k_in) rfl (by k_is) rfl rfl rfl); (case zqc5 => decide); (case zqkB => exact locs rfl); (case zqc2 => exact rfl); (case zqc3 => exact rfl); (case zqc4 => exact rfl); k_whole; intro g' L' h' FG' F' N' B' X' T'; (try dsimp only); (try k_lift B'); (try k_fold))
  k_with "exec While BoolOp cons nil" => (refine stop ?_)
  k_with "exec While Compare cons nil" => (refine stop ?_)
  k_with "MINE same" => (intro z h2 h3; simp only [List.forall_mem_cons, List.not_mem_nil, false_implies, implies_true, and_true, ne_eq] at h2; (try simp only [List.contains_cons, List.contains_nil, Bool.or_false, Bool.or_eq_false_iff, beq_eq_false_iff_ne, ne_eq] at h3); simp [kstB, h2, h3])
  k_with "KswPost" => (refine stop ?_)
  k_with "subscriptTail Name Name str int" => (k_here; (with_unfolding_all refine' item_a ?zqk0 ?zqk1 ?zqk2 ?zqk3 ?_; (case zqk0 => assumption); (case zqk1 => first | rfl | exact Int.natCast_add _ _ | omega); (case zqk2 => omega); (case zqk3 => omega)); intro hItem')
  k_with "subscriptTail Name BinOp str int" => (k_here; (with_unfolding_all refine' item_a (n := _ + 1) ?zqk0 ?zqk1 ?zqk2 ?zqk3 ?_; (case zqk0 => assumption); (case zqk1 => rfl); (case zqk2 => omega); (case zqk3 => omega)); intro hItem')
  k_with "compareOp Eq str str" => (k_here; first | refine eq_c lit_lt ?_ | refine eq_c lit_gt ?_ | refine eq_c lit_bs ?_ | refine eq_c lit_lp ?_ | refine eq_c lit_rp ?_ | refine eq_c lit_nl ?_ | refine eq_c lit_cr ?_ | refine eq_c lit_del ?_ | refine eq_c lit_nul ?_ | refine eq_c lit_blank ?_)
  k_with "compareOp In str str" => (k_here; first | refine in_c _ (in_ws _) ?_ | refine in_c _ (in_bt _) ?_ | refine in_c _ (in_nr _) ?_ | refine in_c _ (in_bad _) ?_ | refine in_c _ (in_punct _) ?_)
  k_with "call builtin:len" => (k_here; (with_reducible show wpAny _ _ (call (Value.builtin "len") [Value.str _ _]) _ _ _); refine len_c (by omega) ?_)
  k_with "call ref" => (k_here; (with_reducible show wpAny _ _ (call (Value.ref _) _ _) _ _ _); refine stop ?_)
  k_with "MINE room" => ((case B => k_asm); (case F => k_asm); (case X => k_asm); (case N => k_asm); (case T => k_asm); (case hk => first | exact rfl | assumption); (case hd => ktr_room); (case hu => ktr_units))
  k_with "getMethod ref" => (k_here; (with_reducible show wpAny _ _ (getMethod _ (Str.ofString "sub") _) _ _ _); k_dflt (refine' getM ?zqF ?zqX ?zql slot_sub type_sub ?_; (case zqF => k_asm); (case zqX => k_asm); (case zql => k_is)))
  k_with "getMethod ref" => (k_here; (with_reducible show wpAny _ _ (getMethod _ (Str.ofString "match") _) _ _ _); k_dflt (refine' getM ?zqF ?zqX ?zql slot_match type_match ?_; (case zqF => k_asm); (case zqX => k_asm); (case zql => k_is)))
  k_with "callWith ref" => (k_here; k_dflt (refine' callWith_K ?zqk1 ?zqk2 ?_; (case zqk1 => k_asm); (case zqk2 => k_is); k_whole))
  k_with "call builtin:list.append" => (k_here; k_dflt (refine' append_T ?zqF ?zqN ?zql ?zqz ?_; (case zqF => k_asm); (case zqN => k_asm); (case zql => assumption); (case zqz => assumption)); intro h' F' N'; (try k_sweep))
  k_with "getMethod ref" => (k_here; (with_reducible show wpAny _ _ (getMethod _ (Str.ofString "group") _) _ _ _); k_dflt (refine' getMm ?zqN ?zqm ?_; (case zqN => k_asm); (case zqm => k_mem)))
  k_with "call builtin:re.Match.group" => (k_here; k_dflt (refine' group_E ?zqz ?zqN ?zqm ?zqn ?_; (case zqN => k_asm); (case zqm => k_mem); (case zqn => k_mem); (case zqz => omega)); intro tk')
  k_with "truthy str" => (k_here; refine truthy_c (by simp [Array.size_extract]; omega) ?_)
  k_with "binaryOp Add str str" => (k_here; refine add_c (by simp [Array.size_extract, lit_nil]; omega) ?_; intro ta' tka')
  k_with "MINE lam" => (refine' kla_code ?zqk1 ?zqk2 ?zqk3 ?zqk4 ?zqk5 ?zqkA ?zqkF ?zqkK ?zqk6 ?zqk7 ?zqk8 ?zqk9 ?zqkB ?_ ?zqc2 ?zqc3 ?zqc4 ?zqc5; (case zqkA => exact rfl); (case zqkF => exact rfl); (case zqkK => exact rfl); (case zqk1 => k_asm); (case zqk2 => k_asm); (case zqk3 => k_asm); (case zqk4 => k_asm); (case zqk5 => k_asm); (case zqk6 => k_mem); (case zqk7 => exact codeRec_news (by k_asm) (by k_mem) (by assumption) (by assumption)); (case zqk8 => ktr_room); (case zqk9 => exact rfl); (case zqc5 => decide); (case zqkB => exact locs rfl); (case zqc2 => exact rfl); (case zqc3 => exact rfl); (case zqc4 => exact rfl); k_whole; intro g' L' h' FG' F' N' B' X' T'; (try dsimp only); (try k_lift B'); (try k_fold))
  k_with "compareOp NotIn str str" => (k_here; first | refine notin_c _ (in_ws _) ?_ | refine notin_c _ (in_bt _) ?_ | refine notin_c _ (in_nr _) ?_ | refine notin_c _ (in_bad _) ?_ | refine notin_c _ (in_punct _) ?_)
  k_with "ite" => (first | (with_reducible refine ite_ff9 ?_) | (with_reducible refine ite_tt9 ?_))
  k_with "call builtin:str.join" => (k_here; k_dflt (refine' join_c ?zqN ?zqm ?zqs ?zqz ?_; (case zqN => k_asm); (case zqm => k_mem); (case zqs => assumption); (case zqz => assumption)); intro tj' tkj')
  k_with "compareOp NotEq str str" => (k_here; first | refine ne_c lit_lt ?_ | refine ne_c lit_gt ?_ | refine ne_c lit_rp ?_ | refine ne_c lit_lp ?_)
  exact True.intro
/-! ## The law's text -/
def Body (n : Nat) (x : Str) : Prop := x.cps.size ≤ n ∧ (∀ c ∈ x.cps.toList, alpha c) ∧ x.cps.toList.count 10 ≤ 1
theorem body_nil : Body 0 (Str.ofString "") := by
  rw [lit_nil]
  exact ⟨Nat.le_refl _, fun _ h => (by simp at h), by simp⟩
def isSign (c : Nat) : Prop := c = 97 ∨ c = 40 ∨ c = 41 ∨ c = 60 ∨ c = 62 ∨ c = 92 ∨ c = 34 ∨ c = 39 ∨ c = 32 ∨ c = 10
theorem sign_alpha {c : Nat} (h : isSign c) : alpha c := by
  rcases h with h | h | h | h | h | h | h | h | h | h
  · exact .inl h
  · exact .inr (.inl h)
  · exact .inr (.inr (.inl h))
  · exact .inr (.inr (.inr (.inl h)))
  · exact .inr (.inr (.inr (.inr (.inl h))))
  · exact .inr (.inr (.inr (.inr (.inr (.inl h)))))
  · exact .inr (.inr (.inr (.inr (.inr (.inr (.inl h))))))
  · exact .inr (.inr (.inr (.inr (.inr (.inr (.inr (.inl h)))))))
  · exact .inr (.inr (.inr (.inr (.inr (.inr (.inr (.inr (.inl h))))))))
  · exact .inr (.inr (.inr (.inr (.inr (.inr (.inr (.inr (.inr (.inl h)))))))))
theorem body_push {n : Nat} {x : Str} {c : Nat} (h : Body n x) (hc : isSign c) (h10 : c = 10 → ¬ 10 ∈ x.cps.toList) : Body (n + 1) ⟨x.cps ++ #[c]⟩ := by
  obtain ⟨h1, h2, h3⟩ := h
  refine ⟨by simp; omega, fun d hd => ?_, ?_⟩
  · simp at hd
    rcases hd with hd | rfl
    · exact h2 d (by simpa using hd)
    · exact sign_alpha hc
  · have e : (⟨x.cps ++ #[c]⟩ : Str).cps.toList = x.cps.toList ++ [c] := by simp
    rw [e, List.count_append]
    by_cases hcc : c = 10
    · have := List.count_eq_zero.mpr (h10 hcc)
      rw [this, hcc]
      decide
    · have : [c].count 10 = 0 := List.count_eq_zero.mpr (by simpa using fun h => hcc h.symm)
      rw [this]; exact h3
theorem law_sign_fin : ∀ k : Fin 10, ∃ c ∈ [97, 40, 41, 60, 62, 92, 34, 39, 32, 10], Txt.item (Str.ofString "a()<>\\\"' \n") (k.val : Int) = ⟨#[c]⟩ := by decide +kernel
theorem sign_mem {c : Nat} (h : c ∈ [97, 40, 41, 60, 62, 92, 34, 39, 32, 10]) : isSign c := by simpa [isSign] using h
theorem law_sign {k : Int} (h0 : 0 ≤ k) (h1 : k < 10) : ∃ c, isSign c ∧ Txt.item (Str.ofString "a()<>\\\"' \n") k = ⟨#[c]⟩ := by
  obtain ⟨c, hc, e⟩ := law_sign_fin ⟨k.toNat, by omega⟩
  have hk : ((k.toNat : Nat) : Int) = k := Int.toNat_of_nonneg h0
  rw [← hk]
  exact ⟨c, sign_mem hc, e⟩
section
variable {prog : Program} {w : World} {A : Around} {E : Value → Shared → Prop} {s : Shared}
theorem item_sign {value slice : Expr} {t u : Tok} {k : Int} {Q : Value → Shared → Prop} (h0 : 0 ≤ k) (h1 : k < 10)
    (h : ∀ c, isSign c → Q (.str ⟨#[c]⟩ s.toks) { s with toks := s.toks + 1 })
    (hs : subscripted slice false (.str (Str.ofString "a()<>\\\"' \n") t) (.int k u) = operate [.str (Str.ofString "a()<>\\\"' \n") t, .int k u] (getItem (.str (Str.ofString "a()<>\\\"' \n") t) (.int k u)) := by with_unfolding_all rfl)
    (ht : ∀ r, letTemporaryGo value (.str (Str.ofString "a()<>\\\"' \n") t) r = pure () := by intro _; with_unfolding_all rfl) :
    wpAny (model prog w) A (subscriptTail value slice (.str (Str.ofString "a()<>\\\"' \n") t) (.int k u)) Q E s := by
  obtain ⟨c, hc, e⟩ := law_sign h0 h1
  have hz : (Str.ofString "a()<>\\\"' \n").length = 10 := by decide
  refine item_str (fitsSsize_of (N := 9223372036854775808) (by omega) (by omega) (Int.le_refl _)) (by rw [hz]; omega) (by rw [hz]; omega) (fun _ => ?_) hs ht
  rw [e]
  exact h c hc
theorem in_nl {x : Str} {t u : Tok} {Q : Value → Shared → Prop} (h : Q (.bool (decide (10 ∈ x.cps.toList))) s) :
    wpAny (model prog w) A (compareOp .In (.str (Str.ofString "\n") u) (.str x t)) Q E s := by
  rw [lit_nl]
  exact in_c _ Iff.rfl h
end
theorem lit_a : Str.ofString "a" = ⟨#[97]⟩ := by decide
theorem Body.mono {n k : Nat} {x : Str} (h : Body n x) (hn : n ≤ k) : Body k x := ⟨Nat.le_trans h.1 hn, h.2⟩
theorem walkFr {h₀ h : Heap} {L : Addr} {x : Str} {u r : Str → Option Value} {q : Str × Value} (F : Fr h₀ L h (fun y => if y = x then u y else kstB r [q] y)) (hq : x ≠ q.1 := by decide) : Fr h₀ L h (kstB (fun y => if y = x then u y else r y) [q]) := by
  have e : (fun y => if y = x then u y else kstB r [q] y) = kstB (fun y => if y = x then u y else r y) [q] := by
    funext y
    by_cases h1 : y = x
    · have h2 : y ≠ q.1 := by rw [h1]; exact hq
      simp [kstB, h1, hq]
    · by_cases h2 : y = q.1 <;> simp [kstB, h1]
  rw [← e]
  exact F
theorem nls_tok : ∀ cs : List Nat, nls (tok cs) = cs.count 10 := by
  intro cs
  induction cs using tok.induct with
  | case1 => rfl
  | case2 c =>
    show (if (⟨false, c⟩ : U).is 10 then 1 else 0) + 0 = _
    by_cases h : c = 10 <;> simp [U.is, h, List.count_cons]
  | case3 c d r h ih =>
    obtain ⟨rfl, he⟩ := h
    have hd : d ≠ 10 := by rintro rfl; exact absurd he (by decide)
    rw [tok_esc he, nls_cons, ih]
    simp [U.is, List.count_cons, hd]
  | case4 c d r h ih =>
    unfold tok
    rw [if_neg h, nls_cons, ih]
    by_cases hc : c = 10
    · simp [U.is, hc, List.count_cons]; omega
    · simp [U.is, hc, List.count_cons]
theorem lit_pz : Str.ofString ")z" = ⟨#[41, 122]⟩ := by decide
theorem lit_pp : Str.ofString "((" = ⟨#[40, 40]⟩ := by decide
theorem law_text {x : Str} (hb : Body 14 x) : (⟨x.cps ++ (Str.ofString ")z").cps⟩ : Str).cps.size ≤ 16 ∧ Alpha ⟨x.cps ++ (Str.ofString ")z").cps⟩ ∧
    (∃ us0, tok (⟨x.cps ++ (Str.ofString ")z").cps⟩ : Str).cps.toList = us0 ++ [⟨false, 122⟩]) ∧ nls (tok (⟨x.cps ++ (Str.ofString ")z").cps⟩ : Str).cps.toList) ≤ 1 := by
  obtain ⟨h1, h2, h3⟩ := hb
  rw [lit_pz]
  have e : (⟨x.cps ++ (⟨#[41, 122]⟩ : Str).cps⟩ : Str).cps.toList = (x.cps.toList ++ [41]) ++ [122] := by simp
  refine ⟨by simp; omega, ?_, ?_, ?_⟩
  · intro i hi
    have hm : (⟨x.cps ++ (⟨#[41, 122]⟩ : Str).cps⟩ : Str).cps[i] ∈ (⟨x.cps ++ (⟨#[41, 122]⟩ : Str).cps⟩ : Str).cps.toList := by rw [Array.mem_toList_iff]; exact Array.getElem_mem hi
    rw [e] at hm
    rcases List.mem_append.mp hm with hm | hm
    · rcases List.mem_append.mp hm with hm | hm
      · exact h2 _ hm
      · rw [List.mem_singleton.mp hm]; unfold alpha; decide
    · rw [List.mem_singleton.mp hm]; unfold alpha; decide
  · rw [e]
    rcases tok_snoc (x.cps.toList ++ [41]) 122 with ⟨us, _, h, _⟩ | ⟨_, h⟩
    · exact absurd h (by decide)
    · exact ⟨_, h⟩
  · rw [nls_tok, e, List.count_append, List.count_append]
    have : [41].count 10 = 0 := by decide
    have : [122].count 10 = 0 := by decide
    omega
theorem law_at (y : Str) : At y 0 (tok y.cps.toList) := ⟨Nat.zero_le _, rfl⟩
theorem law_later {y : Str} (hz : y.cps.size ≤ 16) (ha : Alpha y) : (⟨(Str.ofString "((").cps ++ y.cps⟩ : Str).cps.size = y.cps.size + 2 ∧ Alpha ⟨(Str.ofString "((").cps ++ y.cps⟩ ∧ At ⟨(Str.ofString "((").cps ++ y.cps⟩ 2 (tok y.cps.toList) := by
  rw [lit_pp]
  have e : (⟨(⟨#[40, 40]⟩ : Str).cps ++ y.cps⟩ : Str).cps.toList = 40 :: 40 :: y.cps.toList := by simp
  have hs : (⟨(⟨#[40, 40]⟩ : Str).cps ++ y.cps⟩ : Str).cps.size = y.cps.size + 2 := by simp; omega
  refine ⟨hs, ?_, ⟨by rw [hs]; omega, by rw [e]; rfl⟩⟩
  intro i hi
  have hm : (⟨(⟨#[40, 40]⟩ : Str).cps ++ y.cps⟩ : Str).cps[i] ∈ (⟨(⟨#[40, 40]⟩ : Str).cps ++ y.cps⟩ : Str).cps.toList := by rw [Array.mem_toList_iff]; exact Array.getElem_mem hi
  rw [e] at hm
  rcases List.mem_cons.mp hm with hm | hm
  · rw [hm]; unfold alpha; decide
  rcases List.mem_cons.mp hm with hm | hm
  · rw [hm]; unfold alpha; decide
  · exact alpha_mem ha _ hm
theorem at_len {y : Str} {n k : Nat} {r : List U} (hA : At y n r) (h : k + (flat r).length = y.cps.size) : n = k := by
  have e := congrArg List.length hA.flat
  have hl := hA.le
  simp at e
  omega
theorem at_len2 {y z : Str} {n k : Nat} {r : List U} (hz : z.cps.size = y.cps.size + 2) (hA : At z n r) (h : k + (flat r).length = y.cps.size) : n = k + 2 := by
  refine at_len hA ?_
  rw [hz, ← h]
  omega
theorem words_s_law_2 : True := by
  k_with "exec For" => (refine stop ?_)
  k_with "exec For Name Name" => (refine stop ?_)
  k_with "exec For Name BoolOp cons nil" => (refine stop ?_)
  exact True.intro
local macro_rules | `(tactic| walk_at "pyIter ref") => `(tactic| (refine stop ?_))
theorem words_s_law_3 : True := by
  k_with "subscriptTail Name BinOp str int" => (k_here; (with_reducible show wpAny _ _ (subscriptTail _ _ (Value.str (Str.ofString _) _) (Value.int _ _)) _ _ _); (with_unfolding_all refine' item_sign ?zqk1 ?zqk2 ?_; (case zqk1 => exact Int.fmod_nonneg_of_pos _ (by decide)); (case zqk2 => exact Int.fmod_lt_of_pos _ (by decide))); intro c' hc')
  k_with "compareOp Eq str str" => (k_here; first | refine eq_c lit_nl ?_)
  k_with "compareOp In str str" => (k_here; refine in_nl ?_)
  exact True.intro
theorem TabBlock.grown {T news : List (Addr × Obj)} {L : Addr} {h₀ h : Heap} (hT : TabBlock T) (N : News h₀ L h news) (hs : ∀ q ∈ T, q ∈ news) : GrownAll [(80, 76)] h := by
  refine ⟨?_, True.intro⟩
  rcases hT with rfl | ⟨c, oc, vs, t, rfl, _⟩
  · exact GrownAt.of N (hs _ (.head _))
  · exact GrownAt.of N (hs _ (.head _))
theorem size_a (x : Str) (c : Nat) : x.cps.size + (⟨#[c]⟩ : Str).cps.size = x.cps.size + 1 := rfl
theorem words_s_law_4 : True := by
  k_with "binaryOp Add str str" => (k_here; refine add_c (by first | (simp [lit_a]; omega) | (simp only [lit_pz, lit_pp]; simp; omega)) ?_; intro ta' tka')
  exact True.intro
theorem oneOf {h₀ h : Heap} {L a : Addr} {v : Value} {n : Nat} {led : List (Addr × Obj)} (_N : News h₀ L h ((a, listOf #[v] n) :: led)) : ∃ x : Value, x = v := ⟨v, rfl⟩
/-- what the loop leaves -/
def JoinL (g0 : Heap) (L : Addr) (s s' : Shared) : Prop :=
  ∃ (x : Str) (t : Tok) (h : Heap) (tk : Nat) (u : Str → Option Value), s' = { s with heap := h, toks := tk } ∧ Fr g0 L h (kstB u [("body", .str x t)]) ∧ News g0 L h [(76, tabObj #[])] ∧ Body 14 x
theorem words_s_law_5 : True := by
  k_with "compareOp Eq ref ref" => (k_here; (with_reducible show wpAny _ _ (compareOp CmpOp.Eq (Value.ref _) (Value.ref _)) _ _ _); k_dflt (refine' tup2_eq ?zqhl ?zqhb ?zqh1 ?zqh2 ?zqhu ?_; (case zqhl => exact News.get (by k_asm) (by k_mem)); (case zqhb => exact News.get (by k_asm) (by k_mem)); (case zqh1 => first | exact EqW.of (SeqAt.EqAt.same _) | exact link_eqw (by k_asm) (by k_mem) (by k_mem) hL10 hL9 h10d h9d (Nat.ne_of_gt h109) (by first | ktr_units | exact Nat.le_of_ble_eq_true rfl | decide) | exact link_eqw (by k_asm) (by k_mem) (by k_mem) hL11 hL9 h11d h9d (Nat.ne_of_gt h119) (by first | ktr_units | exact Nat.le_of_ble_eq_true rfl | decide)); (case zqh2 => first | exact EqW.of (SeqAt.EqAt.same _) | exact EqW.ints (by omega)); (case zqhu => first | ktr_units | exact Nat.le_of_ble_eq_true rfl | decide)))
  k_with "GrownAll" => (refine stop ?_)
  k_with "MINE turn" => (
    have hx1 := hb.1
    have hend : ∀ c, isSign c → (c = 10 → ¬ 10 ∈ x.cps.toList) → Body (pre ++ [n]).length ⟨x.cps ++ #[c]⟩ := fun c h1 h2 => by
      rw [List.length_append, List.length_singleton]
      exact body_push hb h1 h2
    k_steps
    all_goals (
      rename Fr _ _ _ _ => F8
      rename News _ _ _ _ => N8
      try rw [lit_a] at F8
      refine kst_end (⟨x.cps ++ _⟩, _) F8 N8 (fun p hp => List.mem_append_left _ hp) (fun p hp => List.mem_append_right _ hp) rfl trivial (by kst_all) (by walk_at "MINE same4") ?_
      first
        | exact hend 97 (.inl rfl) (fun h => nomatch h)
        | exact hend _ (by assumption) (fun _ => by assumption)
        | exact hend _ (by assumption) (fun h => absurd h (by assumption))))
  k_with "MINE same4" => (intro z h1 h2 h3; simp only [List.forall_mem_cons, List.not_mem_nil, false_implies, implies_true, and_true, ne_eq] at h2; (try simp only [List.contains_cons, List.contains_nil, Bool.or_false, Bool.or_eq_false_iff, beq_eq_false_iff_ne, ne_eq] at h3); simp [kstB, h1, h2, h3])
  k_with "MINE lloop" => (
    refine unstop ?_
    rename Fr _ _ _ _ => F1
    rename News _ _ _ _ => N1
    obtain ⟨lD, hlD⟩ := addrOf N1
    subst hlD
    subst hg0 hL0
    refine kst_listL (σ := Str × Tok) (fun c => (lD, _) :: [(76, tabObj #[])]) (fun c => [("body", .str c.1 c.2)]) (fun _ => True) ["sign"] (fun pre c => Body pre.length c.1) (_, _) (by rfl) (fun _ => .head _) hI1 F1 (by first | exact N1 | exact drop2 N1) trivial (by kst_all) body_nil ?_ ?_
    · rintro ⟨x, t⟩ pre post n tn u h tk own e hmem hoff _ hb F2 N2
      dsimp only at hb F2 N2
      have hpl : pre.length ≤ 14 := by
        have := congrArg List.length e
        simp at this
        omega
      walk_at "MINE turn"
    · rintro ⟨x, t⟩ u h tk _ hb F2 N2
      dsimp only at hb F2 N2
      exact ⟨x, t, h, tk, _, rfl, walkFr F2 (show (Str.ofString "number") ≠ Str.ofString "body" from by decide), fun q hq => N2 q (.tail _ hq), hb.mono (by first | omega | (simp; done) | (simp; omega))⟩)
  exact True.intro
set_option maxHeartbeats 8000000 in
theorem law_holds : PySem.Challenge.rw_ba0041_01.Holds := by
  refine hd ?_
  k_go0
  try k_fold
  k_steps
  refine unstop ?_
  rename Fr _ _ _ _ => F0
  obtain ⟨g0, hg0⟩ := heapOf F0
  obtain ⟨L0, hL0⟩ := locOf F0
  rename Shared => sS
  refine cut (JoinL g0 L0 sS) ?_ ?_
  · k_dflt (refine For_invV g0 (by subst hg0; rfl) (by rfl) ?_)
    k_steps
    · rename IntsAre _ (List.take 14 _) => hI1
      walk_at "MINE lloop"
    · rename News _ _ _ _ => N2
      obtain ⟨v1, hv1⟩ := oneOf N2
      have hI1 : IntsAre [v1] [0] := by
        rw [hv1]
        exact .cons _ _ .nil
      subst hv1
      walk_at "MINE lloop"
  · rintro s5 ⟨x, t, h5, tk5, u5, rfl, F5, N5, hb5⟩
    subst hg0 hL0
    have hx1 := hb5.1
    obtain ⟨hz1, ha1, ⟨us0, hu0⟩, hn1⟩ := law_text hb5
    k_steps
    refine unstop ?_
    rename Fr _ _ _ _ => F6
    obtain ⟨y, hy⟩ : ∃ y : Str, y = ⟨x.cps ++ (Str.ofString ")z").cps⟩ := ⟨_, rfl⟩
    rw [← hy] at hz1 ha1 hu0 hn1
    simp only [← hy] at F6 ⊢
    clear hy hx1 hb5
    k_dflt (refine' SpecOf.use (read_spec (law_at _) (Nat.le_trans hz1 (by decide)) ha1 hu0) ?B ?F ?X ?N ?T ?hk ?hd ?hu ?_; walk_at "MINE room")
    rintro r9 tl9 h9 tk9 F9 N9 l9 ⟨a9, rfl, hm9⟩
    obtain ⟨hz2, ha2, hA2⟩ := law_later hz1 ha1
    have hz3 : (⟨(Str.ofString "((").cps ++ y.cps⟩ : Str).cps.size ≤ 20 := by rw [hz2]; omega
    cases hre : read (tok y.cps.toList) with
    | none =>
      rw [hre] at hm9
      dsimp only at hm9
      subst hm9
      simp only [List.cons_append, List.nil_append] at N9
      have h9a : 76 < a9 := l9 _ (.head _) _ (.head _)
      try k_fold
      k_steps
      refine unstop ?_
      k_dflt (refine' SpecT.use (pl_spec (law_at _) (Nat.le_trans hz1 (by decide)) ha1 hn1) [(a9, tupObj [.none, .none])] [(76, tabObj #[])] ?B ?F ?X ?N ?T ?hk ?hd ?hu ?hC ?hT ?h76 ?hsub ?_; walk_at "MINE room"; (case hC => k_asm); (case hT => exact .inl rfl); (case h76 => intro q hq; rw [List.mem_singleton.mp hq]; exact Nat.ne_of_gt h9a); (case hsub => exact fun q hq => hq))
      rintro r10 tl10 T10 h10 tk10 F10 N10 hT10 l10 z10 ⟨a10, rfl, hm10⟩
      rw [hre] at hm10
      dsimp only at hm10
      subst hm10
      simp only [List.cons_append, List.nil_append] at N10
      have h10a : a9 < a10 := l10 _ (.head _) _ (.head _)
      try k_fold
      k_steps
      refine unstop ?_
      k_dflt (refine' SpecT.use (pl_spec hA2 hz3 ha2 hn1) [(a10, tupObj [.none, .none]), (a9, tupObj [.none, .none])] T10 ?B ?F ?X ?N ?T ?hk ?hd ?hu ?hC ?hT ?h76 ?hsub ?_; walk_at "MINE room"; (case hC => k_asm); (case hT => exact hT10); (case h76 => intro q hq; rcases List.mem_cons.mp hq with rfl | hq; (exact Nat.ne_of_gt (Nat.lt_trans h9a h10a)); rw [List.mem_singleton.mp hq]; exact Nat.ne_of_gt h9a); (case hsub => exact fun q hq => hq))
      rintro r11 tl11 T11 h11 tk11 F11 N11 hT11 l11 z11 ⟨a11, rfl, hm11⟩
      rw [hre] at hm11
      dsimp only at hm11
      subst hm11
      simp only [List.cons_append, List.nil_append] at N11
      have h11a : a10 < a11 := l11 _ (.head _) _ (.head _)
      try k_fold
      k_steps
      refine unstop ?_
      rename News _ _ _ _ => N15
      exact hT11.grown N15 (fun q hq => .tail _ (.tail _ (.tail _ hq)))
    | some q9 =>
      obtain ⟨g, tt, rest⟩ := q9
      rw [hre] at hm9
      dsimp only at hm9
      obtain ⟨d9, od9, n9, t9, rfl, hL9, hn9⟩ := hm9
      simp only [List.cons_append, List.nil_append] at N9
      have h9a : 76 < a9 := l9 _ (.head _) _ (.head _)
      have h9d : 76 < d9 := l9 _ (.head _) _ (.tail _ (.head _))
      try k_fold
      k_steps
      refine unstop ?_
      k_dflt (refine' SpecT.use (pl_spec (law_at _) (Nat.le_trans hz1 (by decide)) ha1 hn1) [(a9, tupObj [.ref d9, .int n9 t9]), (d9, od9)] [(76, tabObj #[])] ?B ?F ?X ?N ?T ?hk ?hd ?hu ?hC ?hT ?h76 ?hsub ?_; walk_at "MINE room"; (case hC => k_asm); (case hT => exact .inl rfl); (case h76 => intro q hq; rcases List.mem_cons.mp hq with rfl | hq; (exact Nat.ne_of_gt h9a); rw [List.mem_singleton.mp hq]; exact Nat.ne_of_gt h9d); (case hsub => exact fun q hq => hq))
      rintro r10 tl10 T10 h10 tk10 F10 N10 hT10 l10 z10 ⟨a10, rfl, hm10⟩
      rw [hre] at hm10
      dsimp only at hm10
      obtain ⟨d10, od10, n10, t10, rfl, hL10, hA10⟩ := hm10
      simp only [List.cons_append, List.nil_append] at N10
      have h10a : a9 < a10 := l10 _ (.head _) _ (.head _)
      have h10a' : 76 < a10 := Nat.lt_trans h9a h10a
      have h109 : d9 < d10 := l10 _ (.tail _ (.head _)) _ (.tail _ (.head _))
      have h10d : 76 < d10 := Nat.lt_trans h9d h109
      try k_fold
      k_steps
      refine unstop ?_
      k_dflt (refine' SpecT.use (pl_spec hA2 hz3 ha2 hn1) [(a10, tupObj [.ref d10, .int n10 t10]), (d10, od10), (a9, tupObj [.ref d9, .int n9 t9]), (d9, od9)] T10 ?B ?F ?X ?N ?T ?hk ?hd ?hu ?hC ?hT ?h76 ?hsub ?_; walk_at "MINE room"; (case hC => k_asm); (case hT => exact hT10); (case h76 => intro q hq; rcases List.mem_cons.mp hq with rfl | hq; (exact Nat.ne_of_gt h10a'); rcases List.mem_cons.mp hq with rfl | hq; (exact Nat.ne_of_gt h10d); rcases List.mem_cons.mp hq with rfl | hq; (exact Nat.ne_of_gt h9a); rw [List.mem_singleton.mp hq]; exact Nat.ne_of_gt h9d); (case hsub => exact fun q hq => hq))
      rintro r11 tl11 T11 h11 tk11 F11 N11 hT11 l11 z11 ⟨a11, rfl, hm11⟩
      rw [hre] at hm11
      dsimp only at hm11
      obtain ⟨d11, od11, n11, t11, rfl, hL11, hA11⟩ := hm11
      simp only [List.cons_append, List.nil_append] at N11
      have h11a : a10 < a11 := l11 _ (.head _) _ (.head _)
      have h119 : d9 < d11 := l11 _ (.tail _ (.tail _ (.tail _ (.head _)))) _ (.tail _ (.head _))
      have h11d : 76 < d11 := Nat.lt_trans h9d h119
      have e10 : n10 = n9 := at_len hA10 hn9
      have e11 : n11 = n9 + 2 := at_len2 hz2 hA11 hn9
      try k_fold
      k_steps
      refine unstop ?_
      rename News _ _ _ _ => N15
      exact hT11.grown N15 (fun q hq => .tail _ (.tail _ (.tail _ (.tail _ (.tail _ (.tail _ (.tail _ hq)))))))

end
end Mine
theorem PySem.Challenge.cw_ba0041_01_holds : PySem.Challenge.rw_ba0041_01.Holds :=
  Mine.law_holds
