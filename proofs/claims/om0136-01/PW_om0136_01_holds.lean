import PyProof.Rows.All
import Wide.All
import OpenK.AllK
import Wide.FinOn
import PySem.Challenge.RW_om0136_01
set_option Elab.async false
set_option linter.unusedVariables false
set_option tactic.hygienic false
namespace Mine
theorem tr {a b c : Nat} (h : a ≤ b) (k : b ≤ c) : a ≤ c := Nat.le_trans h k
theorem tl {a b c : Nat} (h : a ≤ b) (k : b < c) : a < c := Nat.lt_of_le_of_lt h k
theorem hd {a b : Nat} (h : a < b) : (a - 1) / 2 < b := tl (tr (Nat.div_le_self _ _) (Nat.sub_le _ _)) h
theorem hs {a : Nat} (h : ¬ a = 0) : (a - 1) / 2 < a := tl (Nat.div_le_self _ _) (Nat.sub_lt (Nat.pos_of_ne_zero h) Nat.one_pos)
theorem p63 : (2 ^ 63 : Int) = ((9223372036854775808 : Nat) : Int) := by decide
theorem cl {a : Nat} (h : a < 9223372036854775808) : (a : Int) < 2 ^ 63 := p63 ▸ Int.ofNat_lt.mpr h
theorem ml (a b : Nat) : min a b ≤ a := Nat.min_le_left a b
theorem mr (a b : Nat) : min a b ≤ b := Nat.min_le_right a b
theorem mz {a b : Int} : min a b ≤ a := Int.min_le_left a b
theorem tn {a : Int} {n : Nat} (h : a < n) (p : 0 < n) : Int.toNat a < n := (Int.toNat_lt' p).mpr h
theorem cz {a : Int} {n k : Int} (h : 0 ≤ a ∧ a < n) (e : n ≤ k) : a < k := Int.lt_of_lt_of_le h.2 e
theorem s1 {a b c : Nat} (h : c + a ≤ b) : a ≤ b := tr (Nat.le_add_left a c) h
theorem cs {a : Nat} (h : 0 < a) : (a : Int) - 1 = ((a - 1 : Nat) : Int) := (Int.ofNat_sub h).symm
theorem sb {a b c : Nat} (h : b < a) (k : 0 < c) : a - (b + c) < a - b := Nat.sub_lt_sub_left h (Nat.lt_add_of_pos_right k)
theorem q1 {c x n : Nat} (h : c + (x + 1) ≤ n) : c + 1 + x ≤ n := tr (Nat.le_of_eq (Nat.succ_add_eq_add_succ c x)) h
theorem q3 {c x n : Nat} (h : c + (x + 3) ≤ n) : c + 1 + x ≤ n := q1 (tr (Nat.add_le_add_left (Nat.le_add_right (x + 1) 2) c) h)
theorem f5 {f : Nat} (h : f + 1 ≤ 5) : 5 - f = 5 - (f + 1) + 1 := (Nat.succ_sub (Nat.le_of_succ_le_succ h)).trans (congrArg Nat.succ (Nat.succ_sub_succ 4 f).symm)
theorem dm {a b : Nat} (h0 : 0 < a) (h1 : (a - 1) / 2 = b) : a = 2 * b + 1 ∨ a = 2 * b + 2 := by
 have k := Nat.div_add_mod (a - 1) 2
 have s := (Nat.succ_pred_eq_of_pos h0).symm
 rw [h1] at k
 rcases Nat.mod_two_eq_zero_or_one (a - 1) with m | m
 ·rw [m] at k; exact .inl (s.trans (congrArg Nat.succ k.symm))
 ·rw [m] at k; exact .inr (s.trans (congrArg Nat.succ k.symm))
theorem q6 {n x g : Nat} (h : g < 7) : n + g + 6 * x < n + 1 + 6 * (x + 1) := by omega
theorem o0 {a : Int} (h0 : 0 ≤ a ∧ a < 5) : a < 2 ^ 63 := cz h0 (by decide)
theorem o1 {a : Nat} : 0 ≤ (a : Int) := Int.natCast_nonneg a
theorem o2 {a : Nat} (h0 : a ≤ 3) : (a : Int) < 2 ^ 63 := cl (tl h0 (by decide))
theorem o3 : (-1 : Int) < 0 := by decide
theorem o4 : (-2 ^ 63 : Int) ≤ -1 := by decide
theorem o5 {a b : Nat} (h0 : ¬(b < a)) : a ≤ b := Nat.le_of_not_lt h0
theorem o6 {a : Nat} (h0 : a ≤ 5) : a ≤ 16777216 := tr h0 (by decide)
theorem o7 {a b c : Nat} (h0 : b = c) (h1 : a < c) : a < b := h0 ▸ h1
theorem o8 {a : Nat} (h0 : 1 ≤ (a : Int)) : -(a : Int) ≤ -1 := Int.neg_le_neg h0
theorem o9 {a b c : Nat} (h0 : c ≤ b) (h1 : c = a) : a ≤ b := h1 ▸ h0
theorem o10 {a b : Nat} (h0 : a < b) : (a - 1) / 2 < b := hd h0
theorem o11 {a b : Nat} (h0 : (b : Int) < 2 ^ 63) (h1 : b = a) : (a : Int) < 9223372036854775808 := h1 ▸ h0
theorem o12 {a b : Nat} (h0 : b < a) : a - (b + 1) < a - b := Nat.sub_succ_lt_self a b h0
theorem o13 : (0 : Int) ≤ 0 := Int.le_refl 0
theorem o14 : (0 : Int) < 2 ^ 63 := by decide
theorem o15 {a : Nat} : -2 ^ 63 ≤ (a : Int) := Int.le_trans (by decide) (Int.natCast_nonneg a)
theorem o16 {a : Nat} (h0 : ¬(a = 0)) : (a - 1) / 2 < a := hs h0
theorem o17 {a : Int} (h0 : 0 ≤ a ∧ a < 5) : Int.toNat a < 5 := tn h0.2 (by decide)
theorem o18 {a : Nat} (h0 : a ≤ 1000) : a ≤ 16777216 := tr h0 (by decide)
theorem o19 {a : Nat} (h0 : a ≤ 3) : a ≤ 16777216 := tr h0 (by decide)
theorem o20 {a b : Nat} (h0 : a ≤ 3) : a ≤ 3 + b := tr h0 (Nat.le_add_right 3 b)
theorem o21 {a : Nat} (h0 : ¬(a = 0)) : 0 < a := Nat.pos_of_ne_zero h0
theorem o22 {a : Nat} : Int.toNat (-1 + (a : Int)) = a - 1 := (congrArg Int.toNat (Int.add_comm (-1) a)).trans (Int.toNat_sub a 1)
theorem o23 {a b c : Nat} (h0 : b ≤ 1000) (h1 : c + a ≤ b) : a ≤ 16777216 := tr (s1 h1) (tr h0 (by decide))
theorem o24 {a : Nat} : 0 ≤ (a : Int) + 1 := Int.natCast_nonneg (a + 1)
theorem o25 {a b : Nat} (h0 : b ≤ 1001) (h1 : a < b - 1) : (a : Int) + 1 < 2 ^ 63 := cl (a := a + 1) (tl (tr h1 (Nat.sub_le _ _)) (tl h0 (by decide)))
theorem o26 {a b : Nat} (h0 : b ≤ 1001) (h1 : a < b - 1) : (a : Int) < 2 ^ 63 := cl (Nat.lt_of_lt_of_le h1 (tr (Nat.sub_le _ _) (tr h0 (by decide))))
theorem o27 {a b : Nat} (h0 : 2 * a + 1 < b) : a < b := tl (tr (Nat.le_mul_of_pos_left a (by decide)) (Nat.le_succ _)) h0
theorem o28 {a : Nat} : 0 ≤ 2 * (a : Int) + 1 := Int.natCast_nonneg (2 * a + 1)
theorem o29 {a : Nat} : 2 * (a : Int) + 1 = ((2 * a + 1 : Nat) : Int) := rfl
theorem o30 {a b c : Nat} (h0 : b = c) (h1 : 2 * a + 1 < c) : 2 * a + 1 < b := h0 ▸ h1
theorem o31 {a b : Nat} (h0 : a < b) : a < b := h0
theorem o32 {a b : Nat} (h0 : a = b) : a ≤ b := Nat.le_of_eq h0
theorem o33 {a : Int} (h0 : 0 ≤ a ∧ a < 4) : a < 2 ^ 63 := cz h0 (by decide)
theorem o34 {a : Nat} {b : Prop} (h0 : a ≤ 6 ∧ (a = 0 → b)) : a < 1000 := tl h0.1 (by decide)
theorem o35 {a b : Nat} (h0 : b < 1000) (h1 : a < b) : (a : Int) < 2 ^ 63 := cl (Nat.lt_trans h1 (Nat.lt_trans h0 (by decide)))
theorem o36 {a : Int} {b : Nat} (h0 : b = 5) (h1 : 0 ≤ a ∧ a < 5) : Int.toNat a < b := tn (h0 ▸ h1.2) (h0 ▸ (by decide))
theorem o37 {a : Nat} (h0 : 0 < a) : 1 ≤ (a : Int) := Int.ofNat_le.mpr h0
theorem o38 {a b c : Nat} (h0 : b ≤ c) : a + b ≤ a + c := Nat.add_le_add_left h0 a
theorem o39 {a b c : Nat} (h0 : a = b + c) : a + 1 = b + (c + 1) := congrArg (· + 1) h0
theorem o40 {a b c : Nat} (h0 : b ≤ 1000) (h1 : c + a ≤ b) : (a : Int) < 9223372036854775808 := Int.ofNat_lt.mpr (tl (s1 h1) (tl h0 (by decide)))
theorem o41 {a : Nat} (h0 : a ≤ 1001) : (a : Int) < 9223372036854775808 := Int.ofNat_lt.mpr (tl h0 (by decide))
theorem o42 {a : Nat} (h0 : a ≤ 1000) : (a : Int) < 9223372036854775808 := Int.ofNat_lt.mpr (tl h0 (by decide))
theorem o43 : (0 : Int) ≤ 4 ∧ (4 : Int) < 5 := by decide
theorem o44 {a b : Nat} (h0 : a + 3 * (b + 4) ≤ 9000) : a + 2 < 9900 := tl (Nat.add_le_add_left (tr (by decide) (Nat.mul_le_mul_left 3 (Nat.le_add_left 4 b))) a) (tl h0 (by decide))
theorem o45 {a b : Nat} (h0 : a + 3 * (b + 7) ≤ 9000) : a + 2 < 9900 := tl (Nat.add_le_add_left (tr (by decide) (Nat.mul_le_mul_left 3 (Nat.le_add_left 7 b))) a) (tl h0 (by decide))
theorem o46 {a : Nat} (h0 : 2 < a) : 0 < a := Nat.zero_lt_of_lt h0
theorem o47 {a b : Nat} : ((a + b : Nat) : Int) = (a : Int) + (b : Int) := rfl
theorem o48 {a b c : Nat} (h0 : b ≤ 5) (h1 : c + a ≤ b) : a ≤ 1000 := tr (s1 h1) (tr h0 (by decide))
theorem o49 {a : Nat} : 0 ≤ 2 * (a : Int) + 1 + 1 := Int.natCast_nonneg (2 * a + 1 + 1)
theorem o50 {a : Nat} : 2 * (a : Int) + 1 + 1 = ((2 * a + 2 : Nat) : Int) := rfl
theorem o51 {a b c : Nat} (h0 : b = c) (h1 : 2 * a + 2 < c) : 2 * a + 2 < b := h0 ▸ h1
theorem o52 {a b : Nat} (h0 : b < a) : a - (2 * b + 1) < a - b := (by rw [show 2 * b + 1 = b + (b + 1) by rw [Nat.two_mul, Nat.add_assoc]]; exact sb h0 (Nat.succ_pos _))
theorem o53 {a b : Nat} (h0 : 2 * a + 1 < b) : 2 * a + 1 < b := h0
theorem o54 {a : Nat} : ((2 * a + 1 : Nat) : Int) = 2 * (a : Int) + 1 := rfl
theorem o55 {a b : Nat} (h0 : b < a) : a - 1 - b < a := Nat.sub_one_sub_lt_of_lt h0
theorem o56 {a : Nat} : -(a : Int) - 1 < 2 ^ 63 := Int.lt_of_le_of_lt (Int.sub_le_self _ (by decide)) (Int.lt_of_le_of_lt (Int.neg_nonpos_of_nonneg (Int.natCast_nonneg a)) (by decide))
theorem o57 {a : Nat} (h0 : a ≤ 3) : (a : Int) ≤ 40 := Int.ofNat_le.mpr (tr h0 (by decide))
theorem o58 {a : Nat} (h0 : a ≤ 3) : a < 1000000 := tl h0 (by decide)
theorem o59 {a b : Nat} (h0 : a + 1 < b) : a < b := Nat.lt_of_succ_lt h0
theorem o60 {a b c d : Nat} (h0 : a + 2 < d) (h1 : b ≤ 2) : a + min b c < d := tl (Nat.add_le_add_left (tr (ml b c) h1) a) h0
theorem o61 {a : Nat} (h0 : 2 < a) : 1 < a := Nat.lt_trans (by decide) h0
theorem o62 {a : Nat} (h0 : (a : Int) < 2 ^ 63) : ¬((a : Int) ≥ 2 ^ 63) := Int.not_le.mpr h0
theorem o63 {a b c : Nat} (h0 : a = c + 1) (h1 : c < b) : a ≤ b := h0 ▸ h1
theorem o64 {a : Nat} (h0 : 0 < a) : a ≠ 0 := Nat.ne_of_gt h0
theorem o65 {a : Nat} (h0 : a ≠ 0) : ((a - 1) / 2 - 1) / 2 ≠ a := Nat.ne_of_lt (hd (hs h0))
theorem o66 {a : Nat} (h0 : a ≠ 0) : (a - 1) / 2 ≠ a := Nat.ne_of_lt (hs h0)
theorem o67 {a b : Nat} (h0 : b ≠ 0) (h1 : (a - 1) / 2 = (b - 1) / 2) : (a - 1) / 2 ≠ b := fun e => Nat.ne_of_lt (hs h0) (h1.symm.trans e)
theorem o68 {a b : Nat} (h0 : a ≠ b) (h1 : a < b + 1) : a < b := Nat.lt_of_le_of_ne (Nat.le_of_lt_succ h1) h0
theorem o69 {a b c : Nat} (h0 : c = b) (h1 : a < c) : a < b := h0 ▸ h1
theorem o70 {a b : Nat} {c : Int} (h0 : c > (a : Int)) (h1 : c ≤ (b : Int)) : a + 1 ≤ b := Int.ofNat_le.mp (Int.le_trans h0 h1)
theorem o71 {a : Nat} (h0 : (a : Int) < 8) : (a : Int) < 9223372036854775807 := Int.lt_trans h0 (by decide)
theorem o72 {a : Nat} (h0 : (a : Int) = 0) : a = 0 := Int.ofNat_eq_zero.mp h0
theorem o73 {a b c : Int} (h0 : 0 ≤ c) (h1 : a ≤ b) : a ≤ b + c := Int.le_trans h1 (Int.le_add_of_nonneg_right h0)
theorem o74 {a b : Nat} (h0 : a < b) (h1 : b < 1000) : (a : Int) < 2 ^ 63 := cl (Nat.lt_trans h0 (Nat.lt_trans h1 (by decide)))
theorem o75 : (0 : Int) ≤ ((0 : Nat) : Int) := by decide
theorem o76 : (((0 : Nat) : Int) : Int) < 2 ^ 63 := by decide
theorem o77 {a b c : Nat} (h0 : b < c) (h1 : a = c) : 0 < a := h1 ▸ Nat.zero_lt_of_lt h0
theorem o78 : (0 : Int) ≤ 1 := by decide
theorem o79 {a : Nat} (h0 : ¬(a = 0)) : (a : Int) - 1 = ((a - 1 : Nat) : Int) := cs (Nat.pos_of_ne_zero h0)
theorem o80 {a : Nat} : 0 ≤ (((a - 1) / 2 : Nat) : Int) := Int.natCast_nonneg _
theorem o81 {a b : Nat} (h0 : b < 1000) (h1 : a < b) : (((a - 1) / 2 : Nat) : Int) < 2 ^ 63 := cl (hd (Nat.lt_trans h1 (Nat.lt_trans h0 (by decide))))
theorem o82 {a b c : Nat} (h0 : b = c) (h1 : a < c) : (a - 1) / 2 < b := h0 ▸ hd h1
theorem o83 {a b c : Nat} (h0 : b ≤ 100) (h1 : c < b) (h2 : a ≤ c) : a ≤ 16777216 := tr h2 (tr (Nat.le_of_lt h1) (tr h0 (by decide)))
theorem o84 {a b : Nat} (h0 : a ≤ b - 1) (h1 : 0 < b) : a + 1 ≤ b := Nat.add_le_of_le_sub h1 h0
theorem o85 {a : Int} (h0 : 0 ≤ a ∧ a < 5) : a = 0 ∨ a = 1 ∨ a = 2 ∨ a = 3 ∨ a = 4 := by lia -abstractProof
theorem o86 {a : Nat} : 5 - (a + 1) = 4 - a := Nat.succ_sub_succ_eq_sub 4 a
theorem o87 {a : Prop} {b : Nat} {c : Prop} {d : Nat} (h0 : b = 5) (h1 : c ∧ d = b + 1) (h2 : d ≤ 5) : a := absurd h2 (by rw [h1.2, h0]; decide)
theorem o88 {a : Nat} (h0 : a ≤ 5) (h1 : ¬(a = 5)) : 5 - a = 4 - a + 1 := Nat.succ_sub (Nat.le_of_lt_succ (Nat.lt_of_le_of_ne h0 h1))
theorem o89 {a b c : Nat} (h0 : a ≤ c) (h1 : 1 ≤ b) : a + 1 ≤ b + c := Nat.add_comm b c ▸ Nat.add_le_add h0 h1
theorem o90 {a b c : Nat} (h0 : b + c ≤ 1296) (h1 : a - b ≤ c) : a ≤ 1296 := tr (Nat.le_add_of_sub_le h1) (Nat.add_comm b c ▸ h0)
theorem o91 {a : Nat} (h0 : a ≤ 1296) : (a : Int) < 2 ^ 63 := cl (tl h0 (by decide))
theorem o92 {a b : Nat} (h0 : a + b ≤ 1296) : (a : Int) < 2 ^ 63 := cl (tl (tr (Nat.le_add_right a b) h0) (by decide))
theorem o93 {a b c d : Nat} (h0 : a ≤ 1296) (h1 : b ≤ min c d) (h2 : d ≤ 5) : a + b ≤ 1301 := Nat.add_le_add h0 (tr h1 (tr (mr c d) h2))
theorem o94 {a : Nat} (h0 : a ≤ 5) : a ≤ 16777215 := tr h0 (by decide)
theorem o95 {a : Nat} (h0 : a ≤ 1301) : a ≤ 16777216 := tr h0 (by decide)
theorem o96 {a b c : Nat} (h0 : b + 1 ≤ c) : a + b < c + a := Nat.add_comm c a ▸ Nat.add_lt_add_left h0 a
theorem o97 {a b c d e : Nat} (h0 : a + d ≤ 1296) (h1 : c + 1 ≤ e) (h2 : d = e + b) : a + 1 + (b + c) ≤ 1296 := tr (Nat.le_of_eq (by rw [Nat.add_assoc, Nat.add_comm b, ← Nat.add_assoc 1, Nat.add_comm 1])) (tr (Nat.add_le_add_left (Nat.add_le_add_right h1 b) a) (h2 ▸ h0))
theorem o98 {a b c : Nat} (h0 : a = c + 1) (h1 : c + (b + 2) ≤ 1000) : a + (b + 1) ≤ 1000 := h0 ▸ q1 h1
theorem o99 {a b c : Nat} (h0 : a = c + 1) (h1 : c + 3 * (b + 2) ≤ 9000) : a + 3 * (b + 1) ≤ 9000 := h0 ▸ q3 h1
theorem o100 {a b : Nat} : a + (b + 1) = a + 1 + b := Nat.add_right_comm a b 1 ▸ rfl
theorem o101 {a b c d e : Nat} (h0 : a ≤ d + c) (h1 : e ≤ b + 1) (h2 : d = e) : a ≤ b + (c + 1) := tr h0 (tr (Nat.add_le_add_right (h2 ▸ h1) c) (Nat.le_of_eq (Nat.succ_add_eq_add_succ b c)))
theorem o102 {a b c d e : Nat} (h0 : a ≤ d + c) (h1 : e ≤ b + 1) (h2 : d = e) : a ≤ b + 1 + c := tr h0 (Nat.add_le_add_right (h2 ▸ h1) c)
theorem o103 {a b : Nat} (h0 : a + b ≤ 800) : a ≤ 1000 := tr (Nat.le_add_right a b) (tr h0 (by decide))
theorem o104 {a b : Nat} (h0 : b + a ≤ 800) : (a : Int) < 9223372036854775808 := Int.ofNat_lt.mpr (tl (s1 h0) (by decide))
theorem o105 {a b : Nat} (h0 : a ≤ b + 1) : a ≤ b + 1 := h0
theorem o106 {a b c d e : Nat} (h0 : b + c ≤ 800) (h1 : d ≤ b + 1) (h2 : a ≤ d + min e c) : a ≤ 1000 := tr h2 (tr (Nat.add_le_add h1 (mr e c)) (tr (Nat.le_of_eq (Nat.add_right_comm b 1 c)) (tr (Nat.succ_le_succ h0) (by decide))))
theorem o107 {a b c d : Nat} (h0 : b + c ≤ 800) (h1 : a ≤ 800 + min d c) : a ≤ 1600 := tr h1 (Nat.add_le_add_left (tr (mr d c) (s1 h0)) 800)
theorem o108 {a : Nat} (h0 : a ≤ 1600) : a ≤ 16777216 := tr h0 (by decide)
theorem o109 {a b : Nat} (h0 : b + a ≤ 800) : a ≤ 16777216 := tr (s1 h0) (by decide)
theorem o110 {a b c : Nat} : a + b + c ≤ a + (c + b) := by rw [Nat.add_assoc, Nat.add_comm b c]; exact Nat.le_refl _
theorem o111 {a b c d e f : Nat} (h0 : e ≤ d) (h1 : f ≤ b + 1 + e) (h2 : a ≤ f + c) : a ≤ b + (c + (d + 1)) := tr h2 (tr (Nat.add_le_add_right (tr h1 (Nat.add_le_add_left h0 _)) c) (Nat.le_of_eq (by rw [Nat.add_assoc b, Nat.add_assoc b, Nat.add_comm 1 d, Nat.add_comm c])))
theorem o112 {a b : Nat} (h0 : b ≤ 20) : min a b * 20 ≤ 400 := Nat.mul_le_mul_right 20 (tr (mr a b) h0)
theorem o113 {a : Nat} (h0 : a ≤ 20) : a ≤ 16777216 := tr h0 (by decide)
theorem o114 {a b : Nat} (h0 : b ≤ 20) : 0 + min a b * 20 ≤ 800 := Nat.zero_add _ ▸ tr (Nat.mul_le_mul_right 20 (tr (mr a b) h0)) (by decide)
theorem o115 {a b c : Nat} (h0 : a = c + 1) (h1 : c + (b + 6) ≤ 1000) : a + (b + 5) ≤ 1000 := h0 ▸ q1 h1
theorem o116 {a b c : Nat} (h0 : a = c + 1) (h1 : c + 3 * (b + 6) ≤ 9000) : a + 3 * (b + 5) ≤ 9000 := h0 ▸ q3 h1
theorem o117 {a b c : Nat} (h0 : a = b + (c + 1)) : a = b + (0 + 1) + c := by lia -abstractProof
theorem o118 {a b c : Nat} (h0 : b ≤ 1000) (h1 : c + 0 ≤ b) (h2 : a = c + 0) : a < 4096 := h2 ▸ tl h1 (tl h0 (by decide))
theorem o119 {a b c d : Nat} (h0 : b ≤ 1000) (h1 : c + d ≤ b) (h2 : a = c + d) : a < 4096 := h2 ▸ tl h1 (tl h0 (by decide))
theorem o120 {a b c d : Nat} (h0 : c ≤ 1000) (h1 : d + a ≤ c) : a ≤ 16777215 + b := tr (s1 h1) (tr h0 (tr (by decide) (Nat.le_add_right 16777215 b)))
theorem o121 {a b c d : Nat} (h0 : c ≤ 1000) (h1 : d + a ≤ c) : a ≤ 1000 + b := tr (s1 h1) (tr h0 (Nat.le_add_right 1000 b))
theorem o122 {a b c d : Nat} (h0 : b ≤ 1000) (h1 : c + d ≤ b) (h2 : a = c + d) : a + 1 < 4096 := h2 ▸ Nat.succ_lt_succ (tl h1 (tl h0 (by decide)))
theorem o123 {a b c d : Nat} (h0 : b ≤ 1000) (h1 : c + d ≤ b) (h2 : a = d) : a ≤ 16777216 := h2 ▸ tr (s1 h1) (tr h0 (by decide))
theorem o124 {a : Nat} : 1 ≤ (a : Int) + 1 := Int.ofNat_le.mpr (Nat.succ_le_succ (Nat.zero_le a))
theorem o125 {a : Nat} : Int.toNat (-1 + ((a + 1 : Nat) : Int)) = a := o22
theorem o126 {a b : Nat} (h0 : b + 1 ≤ a) : a - (b + 1) < a - b := Nat.sub_succ_lt_self a b h0
theorem o127 {a b c : Nat} (h0 : b ≤ 1000) (h1 : c + (a + 1) ≤ b) : a < 16777216 := Nat.lt_of_lt_of_le (s1 h1) (tr h0 (by decide))
theorem o128 {a b c : Nat} (h0 : b ≤ 1000) (h1 : c + (a + 1) ≤ b) : a ≤ 16777215 := tr (Nat.le_of_succ_le (s1 h1)) (tr h0 (by decide))
theorem o129 {a b c d : Nat} (h0 : b ≤ 1000) (h1 : c + (d + 1) ≤ b) (h2 : a + 1 = d + 1) : a < 16777216 := Nat.succ.inj h2 ▸ Nat.lt_of_lt_of_le (s1 h1) (tr h0 (by decide))
theorem o130 : (-2 ^ 62 : Int) ≤ 0 := by decide
theorem o131 : (0 : Int) < 2 ^ 62 := by decide
theorem o132 {a : Nat} : -2 ^ 62 ≤ (a : Int) := Int.le_trans (by decide) (Int.natCast_nonneg a)
theorem o133 {a : Nat} (h0 : a < 1000000) : (a : Int) < 2 ^ 62 := Int.lt_trans (Int.ofNat_lt.mpr h0) (by decide)
theorem o134 {a b : Nat} (h0 : a + (b + 1) ≤ 1000) : a < 1000 := tl (Nat.le_add_right a b) h0
theorem o135 {a b : Nat} (h0 : a + (b + 1) ≤ 1000) : a + 1 + b ≤ 1000 := Nat.add_right_comm a 1 b ▸ h0
theorem o136 {a b : Nat} (h0 : a + 3 * (b + 1) ≤ 9000) : a + 3 + 3 * b ≤ 9000 := by rw [Nat.add_assoc, Nat.add_comm 3]; exact h0
theorem o137 {a b : Nat} (h0 : a + 3 * b ≤ 9000) : a < 9900 := tl (tr (Nat.le_add_right a _) h0) (by decide)
theorem o138 {a b c d : Nat} (h0 : b ≤ 1000) (h1 : c ≤ 1000) (h2 : a ≤ b + min d c) : a ≤ 16777216 := tr h2 (tr (Nat.add_le_add h0 (tr (mr d c) h1)) (by decide))
theorem o139 {a b : Nat} (h0 : a + 1 ≤ b) : a ≤ b := Nat.le_of_succ_le h0
theorem o140 {a : Nat} (h0 : a < 5) : (a : Int) < 2 ^ 63 := cl (Nat.lt_trans h0 (by decide))
theorem o141 {a b : Nat} (h0 : b ≤ 63) (h1 : a ≤ b) : a ≤ 16777216 := tr h1 (tr h0 (by decide))
theorem o142 {a b : Nat} (h0 : b ≤ 63) (h1 : a ≤ b) : 6 + a ≤ 16777216 := tr (Nat.add_le_add_left (tr h1 h0) 6) (by decide)
theorem o143 {a b : Nat} (h0 : b ≤ 63) (h1 : a ≤ b) : a ≤ 94 := tr h1 (tr h0 (by decide))
theorem o144 {a : Nat} (h0 : a = 5) : a ≤ 16777216 := h0 ▸ (by decide)
theorem o145 : (0 : Int) ≤ 4 := by decide
theorem o146 : (4 : Int) < 2 ^ 63 := by decide
theorem o147 {a : Nat} (h0 : a = 5) : 0 < a := h0 ▸ (by decide)
theorem o148 {a b : Nat} (h0 : b ≤ 63) (h1 : a ≤ b) : a ≤ 63 := tr h1 h0
theorem o149 {a : Int} {b : Nat} (h0 : 0 ≤ a ∧ a < (b : Int)) : Int.toNat a < b := (Int.toNat_lt h0.1).mpr h0.2
theorem o150 {a b : Nat} (h0 : a = b) (h1 : b ≤ 5) : a ≤ 5 := h0 ▸ h1
theorem o151 : (31 : Nat) ≤ 31 := Nat.le_refl 31
theorem o152 {a : Nat} (h0 : 0 < a) : ¬(a < 1) := Nat.not_lt.mpr h0
theorem o153 {a b : Nat} (h0 : a + 6 * (5 - b) ≤ 31) : (a : Int) < 9223372036854775808 := Int.ofNat_lt.mpr (tl (tr (Nat.le_add_right a _) h0) (by decide))
theorem o154 {a b : Nat} (h0 : a + 1 + 6 * (5 - b) ≤ 31) : a < 999 := tl (tr (tr (Nat.le_succ a) (Nat.le_add_right _ _)) h0) (by decide)
theorem o155 {a b c d : Nat} (h0 : a = c) (h1 : d + 6 * (5 - b) ≤ 31) (h2 : d = c + 1) : a + 6 * (5 - b) ≤ 31 := by subst h0 h2; exact tr (Nat.add_le_add_right (Nat.le_succ _) _) h1
theorem o156 {a b c d : Nat} (h0 : a = d) (h1 : c = d + 1) : a + 6 * (5 - b) < c + 6 * (5 - b) := by subst h0 h1; exact Nat.add_lt_add_right (Nat.lt_succ_self _) _
theorem o157 {a b : Nat} (h0 : a = b) (h1 : b ≤ 5) : a ≤ 16777216 := h0 ▸ tr h1 (by decide)
theorem o158 {a : Int} {b : Nat} (h0 : b = 5) (h1 : 0 ≤ a ∧ a < 5) : 0 ≤ a ∧ a < (b : Int) := h0 ▸ h1
theorem o159 {a b c d e f g : Nat} (h0 : b = c) (h1 : d + 6 * (5 - e) ≤ 31) (h2 : d = c + 1) (h3 : f ≤ 5) (h4 : a = b + g) (h5 : g < f) : a < 999 := by subst h0 h2 h4; exact Nat.lt_of_lt_of_le (Nat.add_lt_add_left (Nat.lt_of_lt_of_le h5 h3) _) (tr (Nat.add_le_add_right (Nat.le_of_succ_le (tr (Nat.le_add_right _ _) h1)) 5) (by decide))
theorem o160 {a b c d e f g : Nat} (h0 : e = f) (h1 : c = f + 1) (h2 : g ≤ 5) (h3 : a = e + g) (h4 : b ≤ 5) (h5 : b = d + 1) : a + 6 * (5 - b) < c + 6 * (5 - d) := by subst h0 h1 h3 h5; rw [f5 h4]; exact q6 (tl h2 (by decide))
theorem o161 {a b c d e f g : Nat} (h0 : c = d) (h1 : e + 6 * (5 - f) ≤ 31) (h2 : e = d + 1) (h3 : g ≤ 5) (h4 : a = c + g) (h5 : b ≤ 5) (h6 : b = f + 1) : a + 6 * (5 - b) ≤ 31 := by subst h0 h2 h4 h6; rw [f5 h5] at h1; exact tr (Nat.le_of_lt (q6 (tl h3 (by decide)))) h1
theorem o162 {a b : Nat} (h0 : b < 64) (h1 : b = a) : a < 64 := h1 ▸ h0
theorem o163 {a b : Int} (h0 : ¬(b < a)) (h1 : ¬(b = a)) : a < b := Std.lt_of_le_of_ne (Int.not_lt.mp h0) (Ne.symm h1)
theorem o164 {a : Nat} (h0 : a ≤ 5) : a < 64 := tl h0 (by decide)
theorem o165 {a b : Nat} (h0 : b ≤ 5) : min a b ≤ 16777216 := tr (mr a b) (tr h0 (by decide))
theorem o166 {a b c : Nat} (h0 : a < min b c) (h1 : a = b) : False := Nat.lt_irrefl a (Nat.lt_of_lt_of_le h0 (h1 ▸ ml b c))
theorem o167 {a : Nat} (h0 : a ≤ 5) : a ≤ 20 := tr h0 (by decide)
theorem o168 {a b : Nat} (h0 : b ≤ 5) (h1 : a ≤ b) : a ≤ 20 := tr h1 (tr h0 (by decide))
theorem o169 {a b : Nat} (h0 : b ≤ 5) (h1 : a ≤ b) : a ≤ 1000 := tr h1 (tr h0 (by decide))
theorem o170 {a : Nat} (h0 : 2 < a) : (a : Int) - 1 = ((a - 1 : Nat) : Int) := cs (Nat.zero_lt_of_lt h0)
theorem o171 {a : Nat} (h0 : a ≤ 1001) : a - 1 < 1000000 := tl (tr (Nat.sub_le a 1) h0) (by decide)
theorem o172 {a b : Nat} (h0 : a < b - 1) : a < b := Nat.lt_of_lt_of_le h0 (Nat.sub_le b 1)
theorem o173 {a : Nat} : Int.toNat ((a : Int) + 1) = a + 1 := rfl
theorem o174 {a : Nat} (h0 : a ≤ 5) : a ≤ 1000 := tr h0 (by decide)
theorem o175 {a b c : Nat} (h0 : b < c) : a + min b c = a + b := by rw [Nat.min_eq_left (Nat.le_of_lt h0)]
theorem o176 {a b : Nat} : (a : Int) + ((b + 1 : Nat) : Int) = (a : Int) + (b : Int) + 1 := rfl
theorem o177 {a b c d e : Nat} (h0 : b ≤ 5) (h1 : c + d + e + a ≤ b) : a ≤ 1000 := tr (s1 h1) (tr h0 (by decide))
theorem o178 {a b c d e : Nat} (h0 : b ≤ 5) (h1 : c + d ≤ b) (h2 : e < d) (h3 : a = c + e) : a ≤ 16777216 := h3 ▸ tr (Nat.add_le_add_left (Nat.le_of_lt h2) c) (tr h1 (tr h0 (by decide)))
theorem o179 {a b c : Nat} (h0 : b + c ≤ a) (h1 : 0 < c) : a - (b + c) < a - b := sb (Nat.lt_of_lt_of_le (Nat.lt_add_of_pos_right h1) h0) h1
theorem o180 {a : Nat} (h0 : a < 1000) : (a : Int) < 9223372036854775808 := Int.ofNat_lt.mpr (Nat.lt_trans h0 (by decide))
theorem o181 {a b : Nat} (h0 : 2 * a + 1 < b) : 2 * (a : Int) + 1 < (b : Int) := Int.ofNat_lt.mpr h0
theorem o182 {a b : Nat} (h0 : 2 * a + 2 < b) : 2 * (a : Int) + 1 + 1 < (b : Int) := Int.ofNat_lt.mpr h0
theorem o183 {a b : Nat} (h0 : b < a) : a - (2 * b + 2) < a - b := (by rw [show 2 * b + 2 = b + (b + 2) by rw [Nat.two_mul, Nat.add_assoc]]; exact sb h0 (Nat.succ_pos _))
theorem o184 {a b : Nat} (h0 : 2 * a + 2 < b) : 2 * a + 2 < b := h0
theorem o185 {a : Nat} : ((2 * a + 2 : Nat) : Int) = 2 * (a : Int) + 1 + 1 := rfl
theorem o186 {a b : Nat} (h0 : ¬(2 * b + 2 < a)) : (a : Int) ≤ 2 * (b : Int) + 1 + 1 := Int.ofNat_le.mpr (Nat.le_of_not_lt h0)
theorem o187 {a b : Nat} (h0 : ¬(2 * b + 1 < a)) : (a : Int) ≤ 2 * (b : Int) + 1 := Int.ofNat_le.mpr (Nat.le_of_not_lt h0)
theorem o188 {a : Nat} (h0 : a < 999) : a ≤ 16777216 := tr (Nat.le_of_lt h0) (by decide)
theorem o189 {a : Nat} (h0 : a < 999) : (a : Int) + 1 < 9223372036854775808 := Int.ofNat_lt.mpr (tl h0 (by decide))
theorem o190 {a : Nat} (h0 : a < 999) : a + 1 < 1000 := Nat.succ_lt_succ h0
theorem o191 {a : Nat} (h0 : a < 999) : a < 16777216 := Nat.lt_trans h0 (by decide)
theorem o192 {a : Nat} (h0 : a < 999) : (a : Int) < 9223372036854775808 := Int.ofNat_lt.mpr (Nat.lt_trans h0 (by decide))
theorem o193 {a : Nat} (h0 : a + 1 < 999) : a + 1 < 1000 := Nat.lt_trans h0 (by decide)
theorem o194 {a : Nat} : -(a : Int) - 1 < 0 := Int.lt_of_lt_of_le (Int.sub_lt_self _ (by decide)) (Int.neg_nonpos_of_nonneg (Int.natCast_nonneg a))
theorem o195 {a b : Nat} (h0 : a < b) : 0 ≤ -(a : Int) - 1 + (b : Int) ∧ -(a : Int) - 1 + (b : Int) < (b : Int) := by lia
theorem o196 {a b : Nat} : Int.toNat (-(a : Int) - 1 + (b : Int)) = b - 1 - a := (congrArg Int.toNat (show -(a : Int) - 1 + b = (b : Int) - ((a + 1 : Nat) : Int) by omega)).trans ((Int.toNat_sub b (a + 1)).trans (by rw [Nat.sub_sub, Nat.add_comm]))
theorem o197 {a : Prop} {b c : Nat} (h0 : b < c) (h1 : min (c - b) c = 0) : a := absurd h1 (Nat.ne_of_gt (Nat.lt_min.mpr ⟨Nat.sub_pos_of_lt h0, Nat.zero_lt_of_lt h0⟩))
theorem o198 {a : Nat} (h0 : ¬(a = 0)) : ¬(a = 0) := h0
theorem o199 {a b : Nat} (h0 : a < b) (h1 : b ≤ a) : False := Nat.lt_irrefl a (Nat.lt_of_lt_of_le h0 h1)
theorem o201 {a : Nat} : -((a + 1 : Nat) : Int) = -(a : Int) - 1 := by lia -abstractProof
theorem o202 {a : Int} {b c : Nat} (h0 : ((b : Int) - (c : Int)) * 2 > a) : a < ((b : Int) - (c : Int)) * 2 := h0
theorem o203 {a b : Nat} {c : Int} (h0 : ¬(((a : Int) - (b : Int)) * 2 > c)) : ((a : Int) - (b : Int)) * 2 ≤ c := Int.not_lt.mp h0
theorem o204 : (2 : Int) ≠ 0 := by decide
theorem o205 {a : Nat} (h0 : a ≤ 3) : a ≤ 2 ^ 24 := tr h0 (by decide)
theorem o206 {a b c : Nat} (h0 : a ≤ 1) (h1 : b ≤ 1) (h2 : c ≤ 1) : a + b + c ≤ 3 := Nat.add_le_add (Nat.add_le_add h0 h1) h2
theorem o207 {a b : Nat} (h0 : a ≤ 1) (h1 : b ≤ 1) : a + b ≤ 16777216 := tr (Nat.add_le_add h0 h1) (by decide)
theorem o208 {a b c : Nat} (h0 : a ≤ 1) (h1 : b ≤ 1) (h2 : c ≤ 1) : a + b + c ≤ 16777216 := tr (Nat.add_le_add (Nat.add_le_add h0 h1) h2) (by decide)
theorem o209 {a : Nat} {b : Int} {c : Nat} (h0 : -(c : Int) ≤ b) (h1 : c = a) : -(a : Int) ≤ b := h1 ▸ h0
theorem o210 {a b c : Nat} (h0 : c < b) (h1 : c = a) : a + 1 ≤ b := h1 ▸ h0
theorem o211 {a b c : Nat} (h0 : c = b) (h1 : (a : Int) < (c : Int)) : a < b := h0 ▸ Int.ofNat_lt.mp h1
theorem o212 {a b c d e : Nat} (h0 : d + e ≤ c) (h1 : d = a) (h2 : e = b) : a + b ≤ c := h1 ▸ h2 ▸ h0
theorem o213 {a b : Int} (h0 : b < a) : min a b = b := Int.min_eq_right (Int.le_of_lt h0)
theorem o214 {a b : Int} (h0 : ¬(b < a)) : min a b = a := Int.min_eq_left (Int.not_lt.mp h0)
theorem o215 {a b : Nat} (h0 : a + 1 ≤ b) : a < b := h0
theorem o216 {a b : Nat} (h0 : b = a) : a ≤ b := Nat.le_of_eq h0.symm
theorem o217 {a b c : Nat} (h0 : a ≤ b) (h1 : b ≤ c) (h2 : b - a = c) : a = 0 := (Nat.eq_zero_or_pos a).elim id fun p => absurd h2 (Nat.ne_of_lt (Nat.lt_of_lt_of_le (Nat.sub_lt (Nat.lt_of_lt_of_le p h0) p) h1))
theorem o218 {a b c d : Nat} (h0 : c ≤ d) : min (a - b) (c - b) ≤ d := tr (mr _ _) (tr (Nat.sub_le c b) h0)
theorem o219 {a : Nat} : ¬((a : Int) < 0) := Int.not_lt.mpr (Int.natCast_nonneg a)
theorem o220 {a b : Nat} (h0 : a ≤ b) : max 0 (min (a : Int) (b : Int)) = (a : Int) := by rw [Int.min_eq_left (Int.ofNat_le.mpr h0)]; exact Int.max_eq_right (Int.natCast_nonneg a)
theorem o221 {a b : Nat} : a - b ≤ a := Nat.sub_le a b
theorem o222 {a : Nat} (h0 : 0 < a) : -(a : Int) < 0 := Int.neg_neg_of_pos (Int.ofNat_lt.mpr h0)
theorem o223 {a b : Nat} : max 0 (min (-(a : Int) + (b : Int)) (b : Int)) = ((b - a : Nat) : Int) := by
 have e : -(a : Int) + b = b - a := Int.add_comm _ _
 rw [e, Int.min_eq_left (Int.sub_le_self _ (Int.natCast_nonneg a))]
 rcases Nat.le_total a b with h | h
 ·rw [Int.ofNat_sub h]; exact Int.max_eq_right (Int.sub_nonneg_of_le (Int.ofNat_le.mpr h))
 ·rw [Nat.sub_eq_zero_of_le h]; exact Int.max_eq_left (Int.sub_nonpos_of_le (Int.ofNat_le.mpr h))
theorem o224 {a : Int} (h0 : -2 ^ 63 ≤ a) (h1 : a < 2 ^ 63) : -9223372036854775808 ≤ a ∧ a < 9223372036854775808 := ⟨h0, h1⟩
theorem o225 {a b c : Nat} (h0 : c = a) (h1 : ¬(b < c)) : a ≤ b := h0 ▸ Nat.le_of_not_lt h1
theorem o226 {a : Nat} (h0 : a ≤ 1) : a + 1 ≤ 2 := Nat.succ_le_succ h0
theorem o227 {a b : Nat} : min a b ≤ b := mr a b
theorem o228 {a b c d e : Nat} (h0 : c ≤ b) (h1 : d = a) (h2 : d ≤ e) (h3 : e ≤ c) : a ≤ b := h1 ▸ tr h2 (tr h3 h0)
theorem o229 {a b : Nat} (h0 : b ≤ 900) (h1 : a ≤ b + 1) : a ≤ 16777216 + 1 := tr h1 (Nat.succ_le_succ (tr h0 (by decide)))
theorem o230 {a : Nat} {b : Int} (h0 : a - 1 - Int.toNat b < 1000) : ¬(a - 1 - Int.toNat b ≥ 16777216) := Nat.not_le.mpr (Nat.lt_trans h0 (by decide))
theorem o231 {a b : Nat} : a < b + (a + 1 - b) := Nat.sub_le_iff_le_add'.mp (Nat.le_refl (a + 1 - b))
theorem o232 {a : Nat} : 2 < 0 + 1 + 1 + 1 + 1 + 1 + 1 + a := by lia -abstractProof
theorem o233 {a b : Nat} (h0 : b < a) : 0 < (a : Int) - (b : Int) := Int.sub_pos_of_lt (Int.ofNat_lt.mpr h0)
theorem o234 {a b : Nat} : (a : Int) - ((b : Int) + 1) = (a : Int) - (b : Int) - 1 := (Int.sub_sub _ _ _).symm
theorem o235 {a : Nat} : (a : Int) - (a : Int) ≤ 0 := Int.le_of_eq (Int.sub_self _)
theorem o236 {a b : Nat} (h0 : b ≤ 63) (h1 : b = a) : a ≤ 16777216 := h1 ▸ tr h0 (by decide)
theorem o237 {a : Nat} : ¬((a : Int) + 1 = 0) := by omega
theorem o238 {a b c : Nat} (h0 : c = b + 1) (h1 : a < c) (h2 : ¬(a < b)) : a = b := Nat.le_antisymm (Nat.le_of_lt_succ (Nat.lt_of_lt_of_eq h1 h0)) (Nat.le_of_not_lt h2)
theorem o239 {a b c d : Nat} (h0 : b ≤ d) (h1 : d ≤ b) : a + (b + 0) + c = a + (d + c) := by rw [Nat.le_antisymm h0 h1, Nat.add_assoc]; rfl
theorem o240 {a b c : Nat} : a + (b + 1 + c) = a + (b + c) + 1 := by rw [Nat.add_right_comm b 1 c]; rfl
theorem o241 {a b c : Nat} : a + (b + c) = b + (a + c) := Nat.add_left_comm a b c
theorem o242 {a b c d : Nat} (h0 : a + d ≤ c) (h1 : b ≤ d) : a + b ≤ c := tr (Nat.add_le_add_left h1 a) h0
theorem o243 {a b : Nat} (h0 : b ≤ a) (h1 : a < b + 1) : a = b := Nat.le_antisymm (Nat.le_of_lt_succ h1) h0
theorem o244 {a b : Nat} (h0 : a < b) : a ≤ b := Nat.le_of_lt h0
theorem o245 {a b : Nat} (h0 : b < a) : 2 ≤ a - b + 1 := Nat.succ_le_succ (Nat.sub_pos_of_lt h0)
theorem o246 {a b : Nat} (h0 : b < a) : 0 < a - b := Nat.sub_pos_of_lt h0
theorem o247 {a b c d e f : Int} (h0 : a < b ∨ a = b ∧ (c < d ∨ c = d ∧ e ≤ f)) : a ≤ b := h0.elim Int.le_of_lt fun h => Int.le_of_eq h.1
theorem o248 {a b c : Int} : a < a ∨ a = a ∧ (b < b ∨ b = b ∧ c ≤ c) := .inr ⟨rfl, .inr ⟨rfl, Int.le_refl c⟩⟩
theorem o249 {a : Nat} (h0 : a ≠ 0) : 0 < a := Nat.pos_of_ne_zero h0
theorem o250 {a b : Nat} (h0 : b ≠ 0) (h1 : a = b) : ¬((a - 1) / 2 = b) := by subst h1; exact Nat.ne_of_lt (hs h0)
theorem o251 {a : Nat} (h0 : a ≠ 0) : a ≠ (a - 1) / 2 := Nat.ne_of_gt (hs h0)
theorem o252 {a : Prop} {b c : Nat} (h0 : 0 < b) (h1 : (c - 1) / 2 = b) (h2 : c < b + 1) : a := absurd h1 (Nat.ne_of_lt ((Nat.lt_or_eq_of_le (Nat.le_of_lt_succ h2)).elim hd fun e => e ▸ hs (Nat.ne_of_gt (e ▸ h0))))
theorem o253 {a : Prop} {b c : Nat} (h0 : 0 < b) (h1 : (b - 1) / 2 = c) (h2 : b < c + 1) : a := absurd (Nat.le_of_lt_succ h2) (Nat.not_le.mpr (h1 ▸ hs (Nat.ne_of_gt h0)))
theorem o254 {a b : Nat} (h0 : a < b) : a < b + 1 := Nat.lt_succ_of_lt h0
theorem o255 {a b : Nat} (h0 : a < b) : a ≠ b := Nat.ne_of_lt h0
theorem o256 {a : Nat} : (2 * a + 2 - 1) / 2 = a := Nat.mul_add_div (by decide) a 1
theorem o257 {a : Nat} : 0 < 2 * a + 2 := Nat.succ_pos _
theorem o258 {a b : Nat} (h0 : 0 < a) (h1 : (a - 1) / 2 = b) (h2 : ¬(a = 2 * b + 2)) : a = 2 * b + 1 := (dm h0 h1).resolve_right h2
theorem o259 {a : Nat} : (2 * a + 1 - 1) / 2 = a := Nat.mul_add_div (by decide) a 0
theorem o260 {a : Nat} : 0 < 2 * a + 1 := Nat.succ_pos _
theorem o261 {a b : Nat} (h0 : 0 < a) (h1 : (a - 1) / 2 = b) (h2 : ¬(a = 2 * b + 1)) : a = 2 * b + 2 := (dm h0 h1).resolve_left h2
theorem o262 {a b : Nat} (h0 : 0 < a) (h1 : a = b) : ¬((a - 1) / 2 = b) := by subst h1; exact Nat.ne_of_lt (hs (Nat.ne_of_gt h0))
theorem o263 {a b : Nat} (h0 : 0 < b) (h1 : b = a) : 0 < a := h1 ▸ h0
theorem o264 {a b c : Nat} (h0 : (c - 1) / 2 = b) (h1 : 0 < c) (h2 : (a - 1) / 2 = c) : ¬(a = b) := fun e => absurd h2 (Nat.ne_of_lt (hd (e ▸ h0 ▸ hs (Nat.ne_of_gt h1))))
theorem o265 {a b c : Nat} (h0 : (c - 1) / 2 = b) (h1 : 0 < c) (h2 : (a - 1) / 2 = c) : a ≠ b := fun e => absurd h2 (Nat.ne_of_lt (hd (e ▸ h0 ▸ hs (Nat.ne_of_gt h1))))
theorem o266 {a b c : Nat} (h0 : (c - 1) / 2 = b) (h1 : 0 < c) (h2 : (a - 1) / 2 = c) : (a - 1) / 2 ≠ b := fun e => Nat.ne_of_lt (hs (Nat.ne_of_gt h1)) (h0.trans (e.symm.trans h2))
theorem o267 {a b : Nat} (h0 : (a - 1) / 2 = b) (h1 : 0 < a) : a ≠ b := fun e => Nat.ne_of_lt (hs (Nat.ne_of_gt h1)) (h0.trans e.symm)
theorem o268 {a b : Nat} (h0 : (b - 1) / 2 = a) (h1 : 0 < b) : a ≠ b := fun e => Nat.ne_of_lt (hs (Nat.ne_of_gt h1)) (h0.trans e)
theorem o269 {a b : Nat} (h0 : ¬(2 * b + 1 < a)) : a ≤ 2 * b + 1 := Nat.le_of_not_lt h0
theorem o270 {a : Nat} (h0 : 0 < a) : a = a - 1 + 1 := (Nat.succ_pred_eq_of_pos h0).symm
theorem o271 {a : Nat} (h0 : (a - 1) / 2 ≠ 0) : 0 < (a - 1) / 2 := Nat.pos_of_ne_zero h0
theorem o272 {a b : Nat} (h0 : a < b + 1) : a < b + 1 + 1 := Nat.lt_succ_of_lt h0
theorem o273 : ¬((0 : Nat) < 0) := Nat.lt_irrefl 0
theorem o274 {a : Prop} {b c d e : Nat} (h0 : b ≤ 2 * c + 1) (h1 : d = b) (h2 : 0 < c) (h3 : e < d) (h4 : (e - 1) / 2 = c) : a := absurd h4 (Nat.ne_of_lt ((Nat.div_lt_iff_lt_mul (by decide)).mpr (Nat.mul_comm c 2 ▸ tl (Nat.sub_le_sub_right (Nat.le_of_lt_succ (Nat.lt_of_lt_of_le h3 (h1 ▸ h0))) 1) (Nat.sub_lt (Nat.mul_pos (by decide) h2) Nat.one_pos))))
theorem o275 {a : Nat} (h0 : a ≠ 0) : a = a - 1 + 1 := (Nat.succ_pred_eq_of_ne_zero h0).symm
theorem o276 {a : Nat} : a + 1 ≠ 0 := Nat.succ_ne_zero a
theorem o277 {a : Prop} {b c d e : Nat} (h0 : b ≤ 2 * c + 1) (h1 : d = b) (h2 : 0 < e) (h3 : e < d) (h4 : (e - 1) / 2 = c) : a := absurd h4 (Nat.ne_of_lt ((Nat.div_lt_iff_lt_mul (by decide)).mpr (Nat.mul_comm c 2 ▸ Nat.lt_of_lt_of_le (Nat.sub_lt h2 Nat.one_pos) (Nat.le_of_lt_succ (Nat.lt_of_lt_of_le h3 (h1 ▸ h0))))))
theorem o278 {a b : Nat} (h0 : a ≤ b) : a = min a b := (Nat.min_eq_left h0).symm
theorem o279 {a b : Nat} (h0 : ¬(b ≤ a)) : a = min b a := (Nat.min_eq_right (Nat.le_of_not_le h0)).symm
theorem o280 {a b : Nat} : ((min a b : Nat) : Int) = min (a : Int) (b : Int) := (Nat.le_total a b).elim (fun h => by rw [Nat.min_eq_left h, Int.min_eq_left (Int.ofNat_le.mpr h)]) fun h => by rw [Nat.min_eq_right h, Int.min_eq_right (Int.ofNat_le.mpr h)]
theorem o281 {a b : Nat} (h0 : a ≤ b * 2) : a ≤ (b + 1) * 2 := tr h0 (Nat.mul_le_mul_right 2 (Nat.le_succ b))
theorem o282 {a : Nat} : ((a * 2 : Nat) : Int) = (a : Int) * 2 := rfl
theorem o283 {a b : Nat} {c : Int} (h0 : c > (a : Int)) (h1 : c ≤ (b : Int) * 2 + 2) : a + 1 ≤ (b + 1) * 2 := by rw [Nat.succ_mul]; exact Int.ofNat_le.mp (Int.le_trans h0 h1)
theorem o284 {a b : Nat} (h0 : a + 1 ≤ b) : min ((a : Int) + 1) ((a : Int) + 1) = min (b : Int) ((a : Int) + 1) := by rw [Int.min_eq_right (show (a : Int) + 1 ≤ b from Int.ofNat_le.mpr h0), Int.min_eq_left (Int.le_refl _)]
theorem o285 {a : Nat} (h0 : a = 0) (h1 : Nat.succ 0 ≤ a) : False := absurd h1 (h0 ▸ Nat.not_succ_le_zero 0)
theorem o286 {a : Int} {b : Nat} {c : Prop} (h0 : b ≤ 6 ∧ (b = 0 → c)) (h1 : min a (6 + 1) = min (b : Int) (6 + 1)) : a = (b : Int) := by
 have e := h1.trans (Int.min_eq_left (Int.le_trans (Int.ofNat_le.mpr h0.1) (by decide)))
 rcases Int.le_total a (6 + 1) with k | k
 ·rw [Int.min_eq_left k] at e; exact e
 ·rw [Int.min_eq_right k] at e; exact absurd (e ▸ (Int.ofNat_le.mpr h0.1 : (b : Int) ≤ 6)) (by decide)
theorem o287 {a b c d : Nat} (h0 : a ≤ c + d) : min (a : Int) ((b : Int) + 1) ≤ (c : Int) + min (d : Int) ((b : Int) + 1) := (Int.le_total (d : Int) (b + 1)).elim (fun h => by rw [Int.min_eq_left h]; exact Int.le_trans mz (Int.ofNat_le.mpr h0)) fun h => by rw [Int.min_eq_right h]; exact Int.le_trans (Int.min_le_right _ _) (Int.le_add_of_nonneg_left (Int.natCast_nonneg c))
theorem o288 {a b : Int} (h0 : 0 ≤ b ∧ b < 4) : (a + 1 + b) % 5 ≠ a := by omega
theorem o289 {a : Int} (h0 : a < 5) : Int.toNat a < 5 := tn h0 (by decide)
theorem o290 {a : Int} : Int.toNat ((Int.toNat a : Nat) : Int) = Int.toNat a := rfl
theorem o291 {a : Int} (h0 : 0 ≤ a) : ((Int.toNat a : Nat) : Int) = a := Int.toNat_of_nonneg h0
theorem o292 {a : Int} {b : Nat} (h0 : b = 5) (h1 : a < 5) : Int.toNat a < b := tn (h0 ▸ h1) (h0 ▸ (by decide))
theorem o293 {a b : Int} (h0 : b ≤ a) (h1 : 0 ≤ b) : 0 ≤ a := Int.le_trans h1 h0
theorem o294 {a b : Int} (h0 : a ≤ b) (h1 : 0 ≤ a) (h2 : b = 0) : a = 0 := Int.le_antisymm (h2 ▸ h0) h1
theorem o295 {a b c d e : Int} (h0 : e ≤ c) (h1 : min a (b + 1) ≤ e + min d (b + 1)) : min a (b + 1) ≤ c + min d (b + 1) := Int.le_trans h1 (Int.add_le_add_right h0 _)
theorem o296 {a b : Int} (h0 : 0 ≤ a) (h1 : 0 ≤ b) : 0 ≤ a + b := Int.add_nonneg h0 h1
theorem o297 {a b c d e f : Int} (h0 : f ≤ c) (h1 : a + b ≤ f + d + e) : a + b ≤ c + d + e := Int.le_trans h1 (Int.add_le_add_right (Int.add_le_add_right h0 d) e)
theorem o298 {a b c d e f : Int} (h0 : a + b ≤ c + f) (h1 : f ≤ d + e) : a + b ≤ c + d + e := Int.le_trans h0 (Int.add_assoc c d e ▸ Int.add_le_add_left h1 c)
theorem o299 {a b c : Int} (h0 : a + c ≤ b + c) : a ≤ b := Int.le_of_add_le_add_right h0
theorem o300 {a b : Int} (h0 : a ≤ b) (h1 : b ≤ a) : a = b := Int.le_antisymm h0 h1
theorem o301 {a b c d : Int} (h0 : d = b) (h1 : a ≤ d + c) : a ≤ b + c := h0 ▸ h1
theorem o302 {a b c d : Int} (h0 : b ≤ c + d) : a + b ≤ a + c + d := Int.add_assoc a c d ▸ Int.add_le_add_left h0 a
theorem o303 {a b c : Int} (h0 : a = b) (h1 : c ≤ a) (h2 : b < c) : False := absurd h2 (Int.not_lt.mpr (h0 ▸ h1))
theorem o304 {a : Nat} : ((a + 1 : Nat) : Int) = (a : Int) + 1 := rfl
theorem o305 {a b c : Int} (h0 : c < b) (h1 : a = c) : a ≤ b := h1 ▸ Int.le_of_lt h0
theorem o306 {a b c : Int} (h0 : a < b) (h1 : b = c) (h2 : c = a) : False := absurd h0 (h2 ▸ h1 ▸ Int.lt_irrefl _)
theorem o307 {a b : Nat} (h0 : a ≤ b) (h1 : b ≤ a) : a = b := Nat.le_antisymm h0 h1
theorem o308 {a : Int} {b : Nat} {c : Int} {d : Prop} {e f : Int} (h0 : Int.toNat c = b) (h1 : ¬(d → e = f → c ≤ a)) (h2 : 0 ≤ a) : Int.toNat a < b := have k := Int.not_le.mp fun h => h1 fun _ _ => h; h0 ▸ (Int.toNat_lt_toNat (Int.lt_of_le_of_lt h2 k)).mpr k
theorem o309 {a b c d e : Int} (h0 : d = b) (h1 : e ≤ d + c) (h2 : a ≤ e) : a ≤ b + c := h0 ▸ Int.le_trans h2 h1
theorem o310 {a b c : Nat} (h0 : a + (b + 1) < c) : a + b < c := Nat.lt_of_succ_lt h0
theorem o311 {a b c d : Int} (h0 : c + d = b) (h1 : 0 ≤ d) (h2 : a ≤ c) : a ≤ b := Int.le_trans h2 (h0 ▸ Int.le_add_of_nonneg_right h1)
theorem o312 {a : Nat} (h0 : 2 ≤ a) : 0 < a := Nat.lt_of_lt_of_le (by decide) h0
theorem o313 {a b : Nat} (h0 : a + 1 < b) : a + 1 + (b - 1 - (a + 1)) = b - 1 := Nat.add_sub_cancel' (Nat.le_sub_one_of_lt h0)
theorem o314 {a b c d : Int} (h0 : b + a = c) (h1 : d ≤ b) (h2 : c ≤ d) (h3 : 0 ≤ a) : a = 0 := Int.le_antisymm (Int.le_of_add_le_add_left (a := b) (by rw [Int.add_zero, h0]; exact Int.le_trans h2 h1)) h3
theorem o315 {a : Nat} (h0 : 2 ≤ a) (h1 : ¬(a = 2)) : 2 < a := Nat.lt_of_le_of_ne h0 (Ne.symm h1)
theorem o316 {a : Nat} (h0 : 2 < a) : a - 2 + 1 = a - 1 := Nat.succ_pred_eq_of_pos (Nat.sub_pos_of_lt (Nat.lt_of_succ_lt h0))
theorem o317 {a b : Nat} (h0 : a < b) : a - 1 < b := tl (Nat.sub_le a 1) h0
theorem o318 {a : Nat} (h0 : ¬(a = 0)) : a - 1 + 1 = a := Nat.succ_pred_eq_of_ne_zero h0
theorem o319 {a b : Int} (h0 : b = a) : a + 0 = b := (Int.add_zero a).trans h0.symm
theorem o320 {a b : Int} (h0 : a ≤ b + 0) (h1 : ¬(a = b)) : a < b := Std.lt_of_le_of_ne (Int.add_zero b ▸ h0) h1
theorem o321 {a b : Int} {c d : Nat} {e : Int} {f : Nat} (h0 : a < e ∨ a = e ∧ c < f) (h1 : e < b ∨ e = b ∧ f < d) : a < b ∨ a = b ∧ c < d := h0.elim (fun h => h1.elim (fun k => .inl (Int.lt_trans h k)) fun k => .inl (k.1 ▸ h)) fun h => h1.elim (fun k => .inl (h.1 ▸ k)) fun k => .inr ⟨h.1.trans k.1, Nat.lt_trans h.2 k.2⟩
theorem o322 {a : Int} {b : Nat} (h0 : a < a ∨ a = a ∧ b < b) : False := h0.elim (Int.lt_irrefl a) fun h => Nat.lt_irrefl b h.2
theorem o323 {a b c : Nat} (h0 : a < c) (h1 : c ≤ b) : a ≤ b := tr (Nat.le_of_lt h0) h1
theorem o324 {a b : Nat} : 1 + a + (0 + b) = 1 + (a + b) := by lia -abstractProof
theorem o325 {a b : Nat} : 0 + a + (0 + b) = 0 + (a + b) := by lia -abstractProof
theorem o326 {a b c : Nat} : 0 + a + (b + c) = b + (a + c) := by lia -abstractProof
theorem o327 {a b c d : Int} {e : Prop} (h0 : a ≤ d) (h1 : c ≤ a + b) (h2 : ¬e ∧ d + b = c) : a + b = c := Int.le_antisymm (h2.2 ▸ Int.add_le_add_right h0 b) h1
theorem o328 {a b c d : Int} {e : Prop} (h0 : b ≤ a) (h1 : c ≤ b + d) (h2 : ¬e ∧ a + d = c) : a = b := Int.le_antisymm (Int.le_of_add_le_add_right (h2.2 ▸ h1)) h0
theorem o329 {a b c d : Int} (h0 : a = d) (h1 : d + b = c) : a + b = c := h0 ▸ h1
theorem o330 {a : Nat} {b : Int} {c : Nat} (h0 : b - 1 = 0) (h1 : b = (c : Int)) (h2 : c = a + 1) : a = 0 := by subst h1 h2; exact Int.ofNat_eq_zero.mp ((Int.add_sub_cancel (a : Int) 1).symm.trans h0)
theorem o331 {a : Int} {b c : Nat} (h0 : a = (c : Int)) (h1 : c = b + 1) : a - 1 = (b : Int) := by subst h0 h1; show (b : Int) + 1 - 1 = b; exact Int.add_sub_cancel _ _
theorem o332 {a b : Nat} : a ≤ max b a := Nat.le_max_right b a
theorem o333 {a b c : Nat} (h0 : a ≤ b) : a ≤ max b c := tr h0 (Nat.le_max_left b c)
theorem o334 {a b c d : Nat} (h0 : a - d = c) (h1 : d < b) (h2 : b ≤ a) : a - b < c := h0 ▸ Nat.sub_lt_sub_left (Nat.lt_of_lt_of_le h1 h2) h1
theorem cutF {a b c d : Nat} (h0 : (c - d) * 2 ≤ b) (h1 : ((c : Int) - (d : Int)) * 2 > (a : Int)) : a + 1 ≤ b :=
 (Nat.le_total d c).elim (fun h => tr (Int.ofNat_lt.mp (by rw [← Int.ofNat_sub h] at h1; exact h1)) h0) fun h =>
  absurd h1 (Int.not_lt.mpr (Int.le_trans (Int.mul_le_mul_of_nonneg_right (Int.sub_nonpos_of_le (Int.ofNat_le.mpr h)) (by decide)) (by simp)))
theorem o335 {a b c : Nat} (h0 : a ≤ 1) (h1 : b ≤ c) : a + b ≤ c + 1 := Nat.add_comm a b ▸ Nat.add_le_add h1 h0
theorem o336 {a b : Nat} (h0 : 0 < b) (h1 : a ≤ 5 * b) : a + 1 ≤ b * 6 := by rw [Nat.mul_comm, Nat.succ_mul]; exact Nat.add_le_add h1 h0
theorem o337 {a b c d : Nat} (h0 : a ≤ d + c) (h1 : d ≤ b + 1) : a ≤ b + (c + 1) := tr h0 (tr (Nat.add_le_add_right h1 c) (Nat.le_of_eq (Nat.succ_add_eq_add_succ b c)))
section
open PySem PySem.W PyProof.Rows
instance : Nonempty Around := ⟨{}⟩
instance : Nonempty World := ⟨⟨fun _ _ => 0, {strHash := fun _ => 0, shareClass := fun _ => 0, mergeTok := fun t => t, idOf := fun _ => 0, idOfShared := fun _ _ => 0, followText := fun _ => false, idOfImm := fun _ => 0}⟩⟩
instance : Nonempty Shared := ⟨{}⟩
instance : Nonempty Drawn := ⟨{}⟩
instance : Nonempty DefRec := ⟨⟨default, ⟨[], [], none, [], [], none, []⟩, [], default, default⟩⟩
instance : Nonempty Model := (inferInstance : Nonempty (Program × World)).elim fun p => ⟨model p.1 p.2⟩
theorem eps_ex {α : Type} (i : Nonempty α) (P : α → Prop) : Nonempty {x : α // P x → ∀ y, P y} := by
 by_cases h : ∀ y, P y
 ·exact i.elim fun x => ⟨x, fun _ => h⟩
 ·exact (Classical.not_forall.mp h).elim fun x n => ⟨x, fun e => absurd e n⟩
noncomputable def eps {α : Type} (i : Nonempty α) (P : α → Prop) : α := (Classical.choice (eps_ex i P)).val
theorem eps_all {α : Type} {i : Nonempty α} {P : α → Prop} (h : P (eps i P)) : ∀ x, P x := (Classical.choice (eps_ex i P)).property h
noncomputable def zv1 {A : Type} (i : Nonempty A) (P : A → Prop) : A := eps i fun t => P t
theorem zl1 {A : Type} [i : Nonempty A] {P : A → Prop} (hh : P (zv1 i P)) : ∀ a, P a := fun a => eps_all (i := i) (P := fun t : A => P t) hh a
noncomputable def zv2 {A B : Type} (i : Nonempty (A × B)) (P : A → B → Prop) : (A × B) := eps i fun t => P t.1 t.2
theorem zl2 {A B : Type} [i : Nonempty (A × B)] {P : A → B → Prop} (hh : P (zv2 i P).1 (zv2 i P).2) : ∀ a b, P a b := fun a b => eps_all (i := i) (P := fun t : (A × B) => P t.1 t.2) hh (a, b)
noncomputable def zv3 {A B C : Type} (i : Nonempty ((A × B) × C)) (P : A → B → C → Prop) : ((A × B) × C) := eps i fun t => P t.1.1 t.1.2 t.2
theorem zl3 {A B C : Type} [i : Nonempty ((A × B) × C)] {P : A → B → C → Prop} (hh : P (zv3 i P).1.1 (zv3 i P).1.2 (zv3 i P).2) : ∀ a b c, P a b c := fun a b c => eps_all (i := i) (P := fun t : ((A × B) × C) => P t.1.1 t.1.2 t.2) hh ((a, b), c)
noncomputable def zv4 {A B C D : Type} (i : Nonempty ((A × B) × (C × D))) (P : A → B → C → D → Prop) : ((A × B) × (C × D)) := eps i fun t => P t.1.1 t.1.2 t.2.1 t.2.2
theorem zl4 {A B C D : Type} [i : Nonempty ((A × B) × (C × D))] {P : A → B → C → D → Prop} (hh : P (zv4 i P).1.1 (zv4 i P).1.2 (zv4 i P).2.1 (zv4 i P).2.2) : ∀ a b c d, P a b c d := fun a b c d => eps_all (i := i) (P := fun t : ((A × B) × (C × D)) => P t.1.1 t.1.2 t.2.1 t.2.2) hh ((a, b), (c, d))
noncomputable def zv5 {A B C D E : Type} (i : Nonempty (((A × B) × C) × (D × E))) (P : A → B → C → D → E → Prop) : (((A × B) × C) × (D × E)) := eps i fun t => P t.1.1.1 t.1.1.2 t.1.2 t.2.1 t.2.2
theorem zl5 {A B C D E : Type} [i : Nonempty (((A × B) × C) × (D × E))] {P : A → B → C → D → E → Prop} (hh : P (zv5 i P).1.1.1 (zv5 i P).1.1.2 (zv5 i P).1.2 (zv5 i P).2.1 (zv5 i P).2.2) : ∀ a b c d e, P a b c d e := fun a b c d e => eps_all (i := i) (P := fun t : (((A × B) × C) × (D × E)) => P t.1.1.1 t.1.1.2 t.1.2 t.2.1 t.2.2) hh (((a, b), c), (d, e))
noncomputable def zv6 {A B C D E F : Type} (i : Nonempty (((A × B) × C) × ((D × E) × F))) (P : A → B → C → D → E → F → Prop) : (((A × B) × C) × ((D × E) × F)) := eps i fun t => P t.1.1.1 t.1.1.2 t.1.2 t.2.1.1 t.2.1.2 t.2.2
theorem zl6 {A B C D E F : Type} [i : Nonempty (((A × B) × C) × ((D × E) × F))] {P : A → B → C → D → E → F → Prop} (hh : P (zv6 i P).1.1.1 (zv6 i P).1.1.2 (zv6 i P).1.2 (zv6 i P).2.1.1 (zv6 i P).2.1.2 (zv6 i P).2.2) : ∀ a b c d e f, P a b c d e f := fun a b c d e f => eps_all (i := i) (P := fun t : (((A × B) × C) × ((D × E) × F)) => P t.1.1.1 t.1.1.2 t.1.2 t.2.1.1 t.2.1.2 t.2.2) hh (((a, b), c), ((d, e), f))
noncomputable def zv7 {A B C D E F G : Type} (i : Nonempty (((A × B) × (C × D)) × ((E × F) × G))) (P : A → B → C → D → E → F → G → Prop) : (((A × B) × (C × D)) × ((E × F) × G)) := eps i fun t => P t.1.1.1 t.1.1.2 t.1.2.1 t.1.2.2 t.2.1.1 t.2.1.2 t.2.2
theorem zl7 {A B C D E F G : Type} [i : Nonempty (((A × B) × (C × D)) × ((E × F) × G))] {P : A → B → C → D → E → F → G → Prop} (hh : P (zv7 i P).1.1.1 (zv7 i P).1.1.2 (zv7 i P).1.2.1 (zv7 i P).1.2.2 (zv7 i P).2.1.1 (zv7 i P).2.1.2 (zv7 i P).2.2) : ∀ a b c d e f g, P a b c d e f g := fun a b c d e f g => eps_all (i := i) (P := fun t : (((A × B) × (C × D)) × ((E × F) × G)) => P t.1.1.1 t.1.1.2 t.1.2.1 t.1.2.2 t.2.1.1 t.2.1.2 t.2.2) hh (((a, b), (c, d)), ((e, f), g))
noncomputable def zv8 {A B C D E F G H : Type} (i : Nonempty (((A × B) × (C × D)) × ((E × F) × (G × H)))) (P : A → B → C → D → E → F → G → H → Prop) : (((A × B) × (C × D)) × ((E × F) × (G × H))) := eps i fun t => P t.1.1.1 t.1.1.2 t.1.2.1 t.1.2.2 t.2.1.1 t.2.1.2 t.2.2.1 t.2.2.2
theorem zl8 {A B C D E F G H : Type} [i : Nonempty (((A × B) × (C × D)) × ((E × F) × (G × H)))] {P : A → B → C → D → E → F → G → H → Prop} (hh : P (zv8 i P).1.1.1 (zv8 i P).1.1.2 (zv8 i P).1.2.1 (zv8 i P).1.2.2 (zv8 i P).2.1.1 (zv8 i P).2.1.2 (zv8 i P).2.2.1 (zv8 i P).2.2.2) : ∀ a b c d e f g h, P a b c d e f g h := fun a b c d e f g h => eps_all (i := i) (P := fun t : (((A × B) × (C × D)) × ((E × F) × (G × H))) => P t.1.1.1 t.1.1.2 t.1.2.1 t.1.2.2 t.2.1.1 t.2.1.2 t.2.2.1 t.2.2.2) hh (((a, b), (c, d)), ((e, f), (g, h)))
noncomputable def zv9 {A B C D E F G H I : Type} (i : Nonempty ((((A × B) × C) × (D × E)) × ((F × G) × (H × I)))) (P : A → B → C → D → E → F → G → H → I → Prop) : ((((A × B) × C) × (D × E)) × ((F × G) × (H × I))) := eps i fun t => P t.1.1.1.1 t.1.1.1.2 t.1.1.2 t.1.2.1 t.1.2.2 t.2.1.1 t.2.1.2 t.2.2.1 t.2.2.2
theorem zl9 {A B C D E F G H I : Type} [i : Nonempty ((((A × B) × C) × (D × E)) × ((F × G) × (H × I)))] {P : A → B → C → D → E → F → G → H → I → Prop} (hh : P (zv9 i P).1.1.1.1 (zv9 i P).1.1.1.2 (zv9 i P).1.1.2 (zv9 i P).1.2.1 (zv9 i P).1.2.2 (zv9 i P).2.1.1 (zv9 i P).2.1.2 (zv9 i P).2.2.1 (zv9 i P).2.2.2) : ∀ a b c d e f g h j, P a b c d e f g h j := fun a b c d e f g h j => eps_all (i := i) (P := fun t : ((((A × B) × C) × (D × E)) × ((F × G) × (H × I))) => P t.1.1.1.1 t.1.1.1.2 t.1.1.2 t.1.2.1 t.1.2.2 t.2.1.1 t.2.1.2 t.2.2.1 t.2.2.2) hh ((((a, b), c), (d, e)), ((f, g), (h, j)))
noncomputable def zv10 {A B C D E F G H I J : Type} (i : Nonempty ((((A × B) × C) × (D × E)) × (((F × G) × H) × (I × J)))) (P : A → B → C → D → E → F → G → H → I → J → Prop) : ((((A × B) × C) × (D × E)) × (((F × G) × H) × (I × J))) := eps i fun t => P t.1.1.1.1 t.1.1.1.2 t.1.1.2 t.1.2.1 t.1.2.2 t.2.1.1.1 t.2.1.1.2 t.2.1.2 t.2.2.1 t.2.2.2
theorem zl10 {A B C D E F G H I J : Type} [i : Nonempty ((((A × B) × C) × (D × E)) × (((F × G) × H) × (I × J)))] {P : A → B → C → D → E → F → G → H → I → J → Prop} (hh : P (zv10 i P).1.1.1.1 (zv10 i P).1.1.1.2 (zv10 i P).1.1.2 (zv10 i P).1.2.1 (zv10 i P).1.2.2 (zv10 i P).2.1.1.1 (zv10 i P).2.1.1.2 (zv10 i P).2.1.2 (zv10 i P).2.2.1 (zv10 i P).2.2.2) : ∀ a b c d e f g h j k, P a b c d e f g h j k := fun a b c d e f g h j k => eps_all (i := i) (P := fun t : ((((A × B) × C) × (D × E)) × (((F × G) × H) × (I × J))) => P t.1.1.1.1 t.1.1.1.2 t.1.1.2 t.1.2.1 t.1.2.2 t.2.1.1.1 t.2.1.1.2 t.2.1.2 t.2.2.1 t.2.2.2) hh ((((a, b), c), (d, e)), (((f, g), h), (j, k)))
noncomputable def zv11 {A B C D E F G H I J K : Type} (i : Nonempty ((((A × B) × C) × ((D × E) × F)) × (((G × H) × I) × (J × K)))) (P : A → B → C → D → E → F → G → H → I → J → K → Prop) : ((((A × B) × C) × ((D × E) × F)) × (((G × H) × I) × (J × K))) := eps i fun t => P t.1.1.1.1 t.1.1.1.2 t.1.1.2 t.1.2.1.1 t.1.2.1.2 t.1.2.2 t.2.1.1.1 t.2.1.1.2 t.2.1.2 t.2.2.1 t.2.2.2
theorem zl11 {A B C D E F G H I J K : Type} [i : Nonempty ((((A × B) × C) × ((D × E) × F)) × (((G × H) × I) × (J × K)))] {P : A → B → C → D → E → F → G → H → I → J → K → Prop} (hh : P (zv11 i P).1.1.1.1 (zv11 i P).1.1.1.2 (zv11 i P).1.1.2 (zv11 i P).1.2.1.1 (zv11 i P).1.2.1.2 (zv11 i P).1.2.2 (zv11 i P).2.1.1.1 (zv11 i P).2.1.1.2 (zv11 i P).2.1.2 (zv11 i P).2.2.1 (zv11 i P).2.2.2) : ∀ a b c d e f g h j k l, P a b c d e f g h j k l := fun a b c d e f g h j k l => eps_all (i := i) (P := fun t : ((((A × B) × C) × ((D × E) × F)) × (((G × H) × I) × (J × K))) => P t.1.1.1.1 t.1.1.1.2 t.1.1.2 t.1.2.1.1 t.1.2.1.2 t.1.2.2 t.2.1.1.1 t.2.1.1.2 t.2.1.2 t.2.2.1 t.2.2.2) hh ((((a, b), c), ((d, e), f)), (((g, h), j), (k, l)))
noncomputable def zv12 {A B C D E F G H I J K L : Type} (i : Nonempty ((((A × B) × C) × ((D × E) × F)) × (((G × H) × I) × ((J × K) × L)))) (P : A → B → C → D → E → F → G → H → I → J → K → L → Prop) : ((((A × B) × C) × ((D × E) × F)) × (((G × H) × I) × ((J × K) × L))) := eps i fun t => P t.1.1.1.1 t.1.1.1.2 t.1.1.2 t.1.2.1.1 t.1.2.1.2 t.1.2.2 t.2.1.1.1 t.2.1.1.2 t.2.1.2 t.2.2.1.1 t.2.2.1.2 t.2.2.2
theorem zl12 {A B C D E F G H I J K L : Type} [i : Nonempty ((((A × B) × C) × ((D × E) × F)) × (((G × H) × I) × ((J × K) × L)))] {P : A → B → C → D → E → F → G → H → I → J → K → L → Prop} (hh : P (zv12 i P).1.1.1.1 (zv12 i P).1.1.1.2 (zv12 i P).1.1.2 (zv12 i P).1.2.1.1 (zv12 i P).1.2.1.2 (zv12 i P).1.2.2 (zv12 i P).2.1.1.1 (zv12 i P).2.1.1.2 (zv12 i P).2.1.2 (zv12 i P).2.2.1.1 (zv12 i P).2.2.1.2 (zv12 i P).2.2.2) : ∀ a b c d e f g h j k l m, P a b c d e f g h j k l m := fun a b c d e f g h j k l m => eps_all (i := i) (P := fun t : ((((A × B) × C) × ((D × E) × F)) × (((G × H) × I) × ((J × K) × L))) => P t.1.1.1.1 t.1.1.1.2 t.1.1.2 t.1.2.1.1 t.1.2.1.2 t.1.2.2 t.2.1.1.1 t.2.1.1.2 t.2.1.2 t.2.2.1.1 t.2.2.1.2 t.2.2.2) hh ((((a, b), c), ((d, e), f)), (((g, h), j), ((k, l), m)))
noncomputable def zv13 {A B C D E F G H I J K L M : Type} (i : Nonempty ((((A × B) × (C × D)) × ((E × F) × G)) × (((H × I) × J) × ((K × L) × M)))) (P : A → B → C → D → E → F → G → H → I → J → K → L → M → Prop) : ((((A × B) × (C × D)) × ((E × F) × G)) × (((H × I) × J) × ((K × L) × M))) := eps i fun t => P t.1.1.1.1 t.1.1.1.2 t.1.1.2.1 t.1.1.2.2 t.1.2.1.1 t.1.2.1.2 t.1.2.2 t.2.1.1.1 t.2.1.1.2 t.2.1.2 t.2.2.1.1 t.2.2.1.2 t.2.2.2
theorem zl13 {A B C D E F G H I J K L M : Type} [i : Nonempty ((((A × B) × (C × D)) × ((E × F) × G)) × (((H × I) × J) × ((K × L) × M)))] {P : A → B → C → D → E → F → G → H → I → J → K → L → M → Prop} (hh : P (zv13 i P).1.1.1.1 (zv13 i P).1.1.1.2 (zv13 i P).1.1.2.1 (zv13 i P).1.1.2.2 (zv13 i P).1.2.1.1 (zv13 i P).1.2.1.2 (zv13 i P).1.2.2 (zv13 i P).2.1.1.1 (zv13 i P).2.1.1.2 (zv13 i P).2.1.2 (zv13 i P).2.2.1.1 (zv13 i P).2.2.1.2 (zv13 i P).2.2.2) : ∀ a b c d e f g h j k l m n, P a b c d e f g h j k l m n := fun a b c d e f g h j k l m n => eps_all (i := i) (P := fun t : ((((A × B) × (C × D)) × ((E × F) × G)) × (((H × I) × J) × ((K × L) × M))) => P t.1.1.1.1 t.1.1.1.2 t.1.1.2.1 t.1.1.2.2 t.1.2.1.1 t.1.2.1.2 t.1.2.2 t.2.1.1.1 t.2.1.1.2 t.2.1.2 t.2.2.1.1 t.2.2.1.2 t.2.2.2) hh ((((a, b), (c, d)), ((e, f), g)), (((h, j), k), ((l, m), n)))
noncomputable def zv14 {A B C D E F G H I J K L M N : Type} (i : Nonempty ((((A × B) × (C × D)) × ((E × F) × G)) × (((H × I) × (J × K)) × ((L × M) × N)))) (P : A → B → C → D → E → F → G → H → I → J → K → L → M → N → Prop) : ((((A × B) × (C × D)) × ((E × F) × G)) × (((H × I) × (J × K)) × ((L × M) × N))) := eps i fun t => P t.1.1.1.1 t.1.1.1.2 t.1.1.2.1 t.1.1.2.2 t.1.2.1.1 t.1.2.1.2 t.1.2.2 t.2.1.1.1 t.2.1.1.2 t.2.1.2.1 t.2.1.2.2 t.2.2.1.1 t.2.2.1.2 t.2.2.2
theorem zl14 {A B C D E F G H I J K L M N : Type} [i : Nonempty ((((A × B) × (C × D)) × ((E × F) × G)) × (((H × I) × (J × K)) × ((L × M) × N)))] {P : A → B → C → D → E → F → G → H → I → J → K → L → M → N → Prop} (hh : P (zv14 i P).1.1.1.1 (zv14 i P).1.1.1.2 (zv14 i P).1.1.2.1 (zv14 i P).1.1.2.2 (zv14 i P).1.2.1.1 (zv14 i P).1.2.1.2 (zv14 i P).1.2.2 (zv14 i P).2.1.1.1 (zv14 i P).2.1.1.2 (zv14 i P).2.1.2.1 (zv14 i P).2.1.2.2 (zv14 i P).2.2.1.1 (zv14 i P).2.2.1.2 (zv14 i P).2.2.2) : ∀ a b c d e f g h j k l m n o, P a b c d e f g h j k l m n o := fun a b c d e f g h j k l m n o => eps_all (i := i) (P := fun t : ((((A × B) × (C × D)) × ((E × F) × G)) × (((H × I) × (J × K)) × ((L × M) × N))) => P t.1.1.1.1 t.1.1.1.2 t.1.1.2.1 t.1.1.2.2 t.1.2.1.1 t.1.2.1.2 t.1.2.2 t.2.1.1.1 t.2.1.1.2 t.2.1.2.1 t.2.1.2.2 t.2.2.1.1 t.2.2.1.2 t.2.2.2) hh ((((a, b), (c, d)), ((e, f), g)), (((h, j), (k, l)), ((m, n), o)))
noncomputable def zv15 {A B C D E F G H I J K L M N O : Type} (i : Nonempty ((((A × B) × (C × D)) × ((E × F) × (G × H))) × (((I × J) × (K × L)) × ((M × N) × O)))) (P : A → B → C → D → E → F → G → H → I → J → K → L → M → N → O → Prop) : ((((A × B) × (C × D)) × ((E × F) × (G × H))) × (((I × J) × (K × L)) × ((M × N) × O))) := eps i fun t => P t.1.1.1.1 t.1.1.1.2 t.1.1.2.1 t.1.1.2.2 t.1.2.1.1 t.1.2.1.2 t.1.2.2.1 t.1.2.2.2 t.2.1.1.1 t.2.1.1.2 t.2.1.2.1 t.2.1.2.2 t.2.2.1.1 t.2.2.1.2 t.2.2.2
theorem zl15 {A B C D E F G H I J K L M N O : Type} [i : Nonempty ((((A × B) × (C × D)) × ((E × F) × (G × H))) × (((I × J) × (K × L)) × ((M × N) × O)))] {P : A → B → C → D → E → F → G → H → I → J → K → L → M → N → O → Prop} (hh : P (zv15 i P).1.1.1.1 (zv15 i P).1.1.1.2 (zv15 i P).1.1.2.1 (zv15 i P).1.1.2.2 (zv15 i P).1.2.1.1 (zv15 i P).1.2.1.2 (zv15 i P).1.2.2.1 (zv15 i P).1.2.2.2 (zv15 i P).2.1.1.1 (zv15 i P).2.1.1.2 (zv15 i P).2.1.2.1 (zv15 i P).2.1.2.2 (zv15 i P).2.2.1.1 (zv15 i P).2.2.1.2 (zv15 i P).2.2.2) : ∀ a b c d e f g h j k l m n o p, P a b c d e f g h j k l m n o p := fun a b c d e f g h j k l m n o p => eps_all (i := i) (P := fun t : ((((A × B) × (C × D)) × ((E × F) × (G × H))) × (((I × J) × (K × L)) × ((M × N) × O))) => P t.1.1.1.1 t.1.1.1.2 t.1.1.2.1 t.1.1.2.2 t.1.2.1.1 t.1.2.1.2 t.1.2.2.1 t.1.2.2.2 t.2.1.1.1 t.2.1.1.2 t.2.1.2.1 t.2.1.2.2 t.2.2.1.1 t.2.2.1.2 t.2.2.2) hh ((((a, b), (c, d)), ((e, f), (g, h))), (((j, k), (l, m)), ((n, o), p)))
noncomputable def zv16 {A B C D E F G H I J K L M N O Q : Type} (i : Nonempty ((((A × B) × (C × D)) × ((E × F) × (G × H))) × (((I × J) × (K × L)) × ((M × N) × (O × Q))))) (P : A → B → C → D → E → F → G → H → I → J → K → L → M → N → O → Q → Prop) : ((((A × B) × (C × D)) × ((E × F) × (G × H))) × (((I × J) × (K × L)) × ((M × N) × (O × Q)))) := eps i fun t => P t.1.1.1.1 t.1.1.1.2 t.1.1.2.1 t.1.1.2.2 t.1.2.1.1 t.1.2.1.2 t.1.2.2.1 t.1.2.2.2 t.2.1.1.1 t.2.1.1.2 t.2.1.2.1 t.2.1.2.2 t.2.2.1.1 t.2.2.1.2 t.2.2.2.1 t.2.2.2.2
theorem zl16 {A B C D E F G H I J K L M N O Q : Type} [i : Nonempty ((((A × B) × (C × D)) × ((E × F) × (G × H))) × (((I × J) × (K × L)) × ((M × N) × (O × Q))))] {P : A → B → C → D → E → F → G → H → I → J → K → L → M → N → O → Q → Prop} (hh : P (zv16 i P).1.1.1.1 (zv16 i P).1.1.1.2 (zv16 i P).1.1.2.1 (zv16 i P).1.1.2.2 (zv16 i P).1.2.1.1 (zv16 i P).1.2.1.2 (zv16 i P).1.2.2.1 (zv16 i P).1.2.2.2 (zv16 i P).2.1.1.1 (zv16 i P).2.1.1.2 (zv16 i P).2.1.2.1 (zv16 i P).2.1.2.2 (zv16 i P).2.2.1.1 (zv16 i P).2.2.1.2 (zv16 i P).2.2.2.1 (zv16 i P).2.2.2.2) : ∀ a b c d e f g h j k l m n o p q, P a b c d e f g h j k l m n o p q := fun a b c d e f g h j k l m n o p q => eps_all (i := i) (P := fun t : ((((A × B) × (C × D)) × ((E × F) × (G × H))) × (((I × J) × (K × L)) × ((M × N) × (O × Q)))) => P t.1.1.1.1 t.1.1.1.2 t.1.1.2.1 t.1.1.2.2 t.1.2.1.1 t.1.2.1.2 t.1.2.2.1 t.1.2.2.2 t.2.1.1.1 t.2.1.1.2 t.2.1.2.1 t.2.1.2.2 t.2.2.1.1 t.2.2.1.2 t.2.2.2.1 t.2.2.2.2) hh ((((a, b), (c, d)), ((e, f), (g, h))), (((j, k), (l, m)), ((n, o), (p, q))))
noncomputable def zv19 {A B C D E F G H I J K L M N O Q R S T : Type} (i : Nonempty (((((A × B) × C) × (D × E)) × (((F × G) × H) × (I × J))) × ((((K × L) × M) × (N × O)) × ((Q × R) × (S × T))))) (P : A → B → C → D → E → F → G → H → I → J → K → L → M → N → O → Q → R → S → T → Prop) : (((((A × B) × C) × (D × E)) × (((F × G) × H) × (I × J))) × ((((K × L) × M) × (N × O)) × ((Q × R) × (S × T)))) := eps i fun t => P t.1.1.1.1.1 t.1.1.1.1.2 t.1.1.1.2 t.1.1.2.1 t.1.1.2.2 t.1.2.1.1.1 t.1.2.1.1.2 t.1.2.1.2 t.1.2.2.1 t.1.2.2.2 t.2.1.1.1.1 t.2.1.1.1.2 t.2.1.1.2 t.2.1.2.1 t.2.1.2.2 t.2.2.1.1 t.2.2.1.2 t.2.2.2.1 t.2.2.2.2
theorem zl19 {A B C D E F G H I J K L M N O Q R S T : Type} [i : Nonempty (((((A × B) × C) × (D × E)) × (((F × G) × H) × (I × J))) × ((((K × L) × M) × (N × O)) × ((Q × R) × (S × T))))] {P : A → B → C → D → E → F → G → H → I → J → K → L → M → N → O → Q → R → S → T → Prop} (hh : P (zv19 i P).1.1.1.1.1 (zv19 i P).1.1.1.1.2 (zv19 i P).1.1.1.2 (zv19 i P).1.1.2.1 (zv19 i P).1.1.2.2 (zv19 i P).1.2.1.1.1 (zv19 i P).1.2.1.1.2 (zv19 i P).1.2.1.2 (zv19 i P).1.2.2.1 (zv19 i P).1.2.2.2 (zv19 i P).2.1.1.1.1 (zv19 i P).2.1.1.1.2 (zv19 i P).2.1.1.2 (zv19 i P).2.1.2.1 (zv19 i P).2.1.2.2 (zv19 i P).2.2.1.1 (zv19 i P).2.2.1.2 (zv19 i P).2.2.2.1 (zv19 i P).2.2.2.2) : ∀ a b c d e f g h j k l m n o p q r s u, P a b c d e f g h j k l m n o p q r s u := fun a b c d e f g h j k l m n o p q r s u => eps_all (i := i) (P := fun t : (((((A × B) × C) × (D × E)) × (((F × G) × H) × (I × J))) × ((((K × L) × M) × (N × O)) × ((Q × R) × (S × T)))) => P t.1.1.1.1.1 t.1.1.1.1.2 t.1.1.1.2 t.1.1.2.1 t.1.1.2.2 t.1.2.1.1.1 t.1.2.1.1.2 t.1.2.1.2 t.1.2.2.1 t.1.2.2.2 t.2.1.1.1.1 t.2.1.1.1.2 t.2.1.1.2 t.2.1.2.1 t.2.1.2.2 t.2.2.1.1 t.2.2.1.2 t.2.2.2.1 t.2.2.2.2) hh (((((a, b), c), (d, e)), (((f, g), h), (j, k))), ((((l, m), n), (o, p)), ((q, r), (s, u))))
noncomputable def zv20 {A B C D E F G H I J K L M N O Q R S T U : Type} (i : Nonempty (((((A × B) × C) × (D × E)) × (((F × G) × H) × (I × J))) × ((((K × L) × M) × (N × O)) × (((Q × R) × S) × (T × U))))) (P : A → B → C → D → E → F → G → H → I → J → K → L → M → N → O → Q → R → S → T → U → Prop) : (((((A × B) × C) × (D × E)) × (((F × G) × H) × (I × J))) × ((((K × L) × M) × (N × O)) × (((Q × R) × S) × (T × U)))) := eps i fun t => P t.1.1.1.1.1 t.1.1.1.1.2 t.1.1.1.2 t.1.1.2.1 t.1.1.2.2 t.1.2.1.1.1 t.1.2.1.1.2 t.1.2.1.2 t.1.2.2.1 t.1.2.2.2 t.2.1.1.1.1 t.2.1.1.1.2 t.2.1.1.2 t.2.1.2.1 t.2.1.2.2 t.2.2.1.1.1 t.2.2.1.1.2 t.2.2.1.2 t.2.2.2.1 t.2.2.2.2
theorem zl20 {A B C D E F G H I J K L M N O Q R S T U : Type} [i : Nonempty (((((A × B) × C) × (D × E)) × (((F × G) × H) × (I × J))) × ((((K × L) × M) × (N × O)) × (((Q × R) × S) × (T × U))))] {P : A → B → C → D → E → F → G → H → I → J → K → L → M → N → O → Q → R → S → T → U → Prop} (hh : P (zv20 i P).1.1.1.1.1 (zv20 i P).1.1.1.1.2 (zv20 i P).1.1.1.2 (zv20 i P).1.1.2.1 (zv20 i P).1.1.2.2 (zv20 i P).1.2.1.1.1 (zv20 i P).1.2.1.1.2 (zv20 i P).1.2.1.2 (zv20 i P).1.2.2.1 (zv20 i P).1.2.2.2 (zv20 i P).2.1.1.1.1 (zv20 i P).2.1.1.1.2 (zv20 i P).2.1.1.2 (zv20 i P).2.1.2.1 (zv20 i P).2.1.2.2 (zv20 i P).2.2.1.1.1 (zv20 i P).2.2.1.1.2 (zv20 i P).2.2.1.2 (zv20 i P).2.2.2.1 (zv20 i P).2.2.2.2) : ∀ a b c d e f g h j k l m n o p q r s u v, P a b c d e f g h j k l m n o p q r s u v := fun a b c d e f g h j k l m n o p q r s u v => eps_all (i := i) (P := fun t : (((((A × B) × C) × (D × E)) × (((F × G) × H) × (I × J))) × ((((K × L) × M) × (N × O)) × (((Q × R) × S) × (T × U)))) => P t.1.1.1.1.1 t.1.1.1.1.2 t.1.1.1.2 t.1.1.2.1 t.1.1.2.2 t.1.2.1.1.1 t.1.2.1.1.2 t.1.2.1.2 t.1.2.2.1 t.1.2.2.2 t.2.1.1.1.1 t.2.1.1.1.2 t.2.1.1.2 t.2.1.2.1 t.2.1.2.2 t.2.2.1.1.1 t.2.2.1.1.2 t.2.2.1.2 t.2.2.2.1 t.2.2.2.2) hh (((((a, b), c), (d, e)), (((f, g), h), (j, k))), ((((l, m), n), (o, p)), (((q, r), s), (u, v))))
noncomputable def zv21 {A B C D E F G H I J K L M N O Q R S T U V : Type} (i : Nonempty (((((A × B) × C) × ((D × E) × F)) × (((G × H) × I) × (J × K))) × ((((L × M) × N) × (O × Q)) × (((R × S) × T) × (U × V))))) (P : A → B → C → D → E → F → G → H → I → J → K → L → M → N → O → Q → R → S → T → U → V → Prop) : (((((A × B) × C) × ((D × E) × F)) × (((G × H) × I) × (J × K))) × ((((L × M) × N) × (O × Q)) × (((R × S) × T) × (U × V)))) := eps i fun t => P t.1.1.1.1.1 t.1.1.1.1.2 t.1.1.1.2 t.1.1.2.1.1 t.1.1.2.1.2 t.1.1.2.2 t.1.2.1.1.1 t.1.2.1.1.2 t.1.2.1.2 t.1.2.2.1 t.1.2.2.2 t.2.1.1.1.1 t.2.1.1.1.2 t.2.1.1.2 t.2.1.2.1 t.2.1.2.2 t.2.2.1.1.1 t.2.2.1.1.2 t.2.2.1.2 t.2.2.2.1 t.2.2.2.2
theorem zl21 {A B C D E F G H I J K L M N O Q R S T U V : Type} [i : Nonempty (((((A × B) × C) × ((D × E) × F)) × (((G × H) × I) × (J × K))) × ((((L × M) × N) × (O × Q)) × (((R × S) × T) × (U × V))))] {P : A → B → C → D → E → F → G → H → I → J → K → L → M → N → O → Q → R → S → T → U → V → Prop} (hh : P (zv21 i P).1.1.1.1.1 (zv21 i P).1.1.1.1.2 (zv21 i P).1.1.1.2 (zv21 i P).1.1.2.1.1 (zv21 i P).1.1.2.1.2 (zv21 i P).1.1.2.2 (zv21 i P).1.2.1.1.1 (zv21 i P).1.2.1.1.2 (zv21 i P).1.2.1.2 (zv21 i P).1.2.2.1 (zv21 i P).1.2.2.2 (zv21 i P).2.1.1.1.1 (zv21 i P).2.1.1.1.2 (zv21 i P).2.1.1.2 (zv21 i P).2.1.2.1 (zv21 i P).2.1.2.2 (zv21 i P).2.2.1.1.1 (zv21 i P).2.2.1.1.2 (zv21 i P).2.2.1.2 (zv21 i P).2.2.2.1 (zv21 i P).2.2.2.2) : ∀ a b c d e f g h j k l m n o p q r s u v w, P a b c d e f g h j k l m n o p q r s u v w := fun a b c d e f g h j k l m n o p q r s u v w => eps_all (i := i) (P := fun t : (((((A × B) × C) × ((D × E) × F)) × (((G × H) × I) × (J × K))) × ((((L × M) × N) × (O × Q)) × (((R × S) × T) × (U × V)))) => P t.1.1.1.1.1 t.1.1.1.1.2 t.1.1.1.2 t.1.1.2.1.1 t.1.1.2.1.2 t.1.1.2.2 t.1.2.1.1.1 t.1.2.1.1.2 t.1.2.1.2 t.1.2.2.1 t.1.2.2.2 t.2.1.1.1.1 t.2.1.1.1.2 t.2.1.1.2 t.2.1.2.1 t.2.1.2.2 t.2.2.1.1.1 t.2.2.1.1.2 t.2.2.1.2 t.2.2.2.1 t.2.2.2.2) hh (((((a, b), c), ((d, e), f)), (((g, h), j), (k, l))), ((((m, n), o), (p, q)), (((r, s), u), (v, w))))
noncomputable def zv22 {A B C D E F G H I J K L M N O Q R S T U V W : Type} (i : Nonempty (((((A × B) × C) × ((D × E) × F)) × (((G × H) × I) × (J × K))) × ((((L × M) × N) × ((O × Q) × R)) × (((S × T) × U) × (V × W))))) (P : A → B → C → D → E → F → G → H → I → J → K → L → M → N → O → Q → R → S → T → U → V → W → Prop) : (((((A × B) × C) × ((D × E) × F)) × (((G × H) × I) × (J × K))) × ((((L × M) × N) × ((O × Q) × R)) × (((S × T) × U) × (V × W)))) := eps i fun t => P t.1.1.1.1.1 t.1.1.1.1.2 t.1.1.1.2 t.1.1.2.1.1 t.1.1.2.1.2 t.1.1.2.2 t.1.2.1.1.1 t.1.2.1.1.2 t.1.2.1.2 t.1.2.2.1 t.1.2.2.2 t.2.1.1.1.1 t.2.1.1.1.2 t.2.1.1.2 t.2.1.2.1.1 t.2.1.2.1.2 t.2.1.2.2 t.2.2.1.1.1 t.2.2.1.1.2 t.2.2.1.2 t.2.2.2.1 t.2.2.2.2
theorem zl22 {A B C D E F G H I J K L M N O Q R S T U V W : Type} [i : Nonempty (((((A × B) × C) × ((D × E) × F)) × (((G × H) × I) × (J × K))) × ((((L × M) × N) × ((O × Q) × R)) × (((S × T) × U) × (V × W))))] {P : A → B → C → D → E → F → G → H → I → J → K → L → M → N → O → Q → R → S → T → U → V → W → Prop} (hh : P (zv22 i P).1.1.1.1.1 (zv22 i P).1.1.1.1.2 (zv22 i P).1.1.1.2 (zv22 i P).1.1.2.1.1 (zv22 i P).1.1.2.1.2 (zv22 i P).1.1.2.2 (zv22 i P).1.2.1.1.1 (zv22 i P).1.2.1.1.2 (zv22 i P).1.2.1.2 (zv22 i P).1.2.2.1 (zv22 i P).1.2.2.2 (zv22 i P).2.1.1.1.1 (zv22 i P).2.1.1.1.2 (zv22 i P).2.1.1.2 (zv22 i P).2.1.2.1.1 (zv22 i P).2.1.2.1.2 (zv22 i P).2.1.2.2 (zv22 i P).2.2.1.1.1 (zv22 i P).2.2.1.1.2 (zv22 i P).2.2.1.2 (zv22 i P).2.2.2.1 (zv22 i P).2.2.2.2) : ∀ a b c d e f g h j k l m n o p q r s u v w x, P a b c d e f g h j k l m n o p q r s u v w x := fun a b c d e f g h j k l m n o p q r s u v w x => eps_all (i := i) (P := fun t : (((((A × B) × C) × ((D × E) × F)) × (((G × H) × I) × (J × K))) × ((((L × M) × N) × ((O × Q) × R)) × (((S × T) × U) × (V × W)))) => P t.1.1.1.1.1 t.1.1.1.1.2 t.1.1.1.2 t.1.1.2.1.1 t.1.1.2.1.2 t.1.1.2.2 t.1.2.1.1.1 t.1.2.1.1.2 t.1.2.1.2 t.1.2.2.1 t.1.2.2.2 t.2.1.1.1.1 t.2.1.1.1.2 t.2.1.1.2 t.2.1.2.1.1 t.2.1.2.1.2 t.2.1.2.2 t.2.2.1.1.1 t.2.2.1.1.2 t.2.2.1.2 t.2.2.2.1 t.2.2.2.2) hh (((((a, b), c), ((d, e), f)), (((g, h), j), (k, l))), ((((m, n), o), ((p, q), r)), (((s, u), v), (w, x))))
noncomputable def zv23 {A B C D E F G H I J K L M N O Q R S T U V W X : Type} (i : Nonempty (((((A × B) × C) × ((D × E) × F)) × (((G × H) × I) × ((J × K) × L))) × ((((M × N) × O) × ((Q × R) × S)) × (((T × U) × V) × (W × X))))) (P : A → B → C → D → E → F → G → H → I → J → K → L → M → N → O → Q → R → S → T → U → V → W → X → Prop) : (((((A × B) × C) × ((D × E) × F)) × (((G × H) × I) × ((J × K) × L))) × ((((M × N) × O) × ((Q × R) × S)) × (((T × U) × V) × (W × X)))) := eps i fun t => P t.1.1.1.1.1 t.1.1.1.1.2 t.1.1.1.2 t.1.1.2.1.1 t.1.1.2.1.2 t.1.1.2.2 t.1.2.1.1.1 t.1.2.1.1.2 t.1.2.1.2 t.1.2.2.1.1 t.1.2.2.1.2 t.1.2.2.2 t.2.1.1.1.1 t.2.1.1.1.2 t.2.1.1.2 t.2.1.2.1.1 t.2.1.2.1.2 t.2.1.2.2 t.2.2.1.1.1 t.2.2.1.1.2 t.2.2.1.2 t.2.2.2.1 t.2.2.2.2
theorem zl23 {A B C D E F G H I J K L M N O Q R S T U V W X : Type} [i : Nonempty (((((A × B) × C) × ((D × E) × F)) × (((G × H) × I) × ((J × K) × L))) × ((((M × N) × O) × ((Q × R) × S)) × (((T × U) × V) × (W × X))))] {P : A → B → C → D → E → F → G → H → I → J → K → L → M → N → O → Q → R → S → T → U → V → W → X → Prop} (hh : P (zv23 i P).1.1.1.1.1 (zv23 i P).1.1.1.1.2 (zv23 i P).1.1.1.2 (zv23 i P).1.1.2.1.1 (zv23 i P).1.1.2.1.2 (zv23 i P).1.1.2.2 (zv23 i P).1.2.1.1.1 (zv23 i P).1.2.1.1.2 (zv23 i P).1.2.1.2 (zv23 i P).1.2.2.1.1 (zv23 i P).1.2.2.1.2 (zv23 i P).1.2.2.2 (zv23 i P).2.1.1.1.1 (zv23 i P).2.1.1.1.2 (zv23 i P).2.1.1.2 (zv23 i P).2.1.2.1.1 (zv23 i P).2.1.2.1.2 (zv23 i P).2.1.2.2 (zv23 i P).2.2.1.1.1 (zv23 i P).2.2.1.1.2 (zv23 i P).2.2.1.2 (zv23 i P).2.2.2.1 (zv23 i P).2.2.2.2) : ∀ a b c d e f g h j k l m n o p q r s u v w x y, P a b c d e f g h j k l m n o p q r s u v w x y := fun a b c d e f g h j k l m n o p q r s u v w x y => eps_all (i := i) (P := fun t : (((((A × B) × C) × ((D × E) × F)) × (((G × H) × I) × ((J × K) × L))) × ((((M × N) × O) × ((Q × R) × S)) × (((T × U) × V) × (W × X)))) => P t.1.1.1.1.1 t.1.1.1.1.2 t.1.1.1.2 t.1.1.2.1.1 t.1.1.2.1.2 t.1.1.2.2 t.1.2.1.1.1 t.1.2.1.1.2 t.1.2.1.2 t.1.2.2.1.1 t.1.2.2.1.2 t.1.2.2.2 t.2.1.1.1.1 t.2.1.1.1.2 t.2.1.1.2 t.2.1.2.1.1 t.2.1.2.1.2 t.2.1.2.2 t.2.2.1.1.1 t.2.2.1.1.2 t.2.2.1.2 t.2.2.2.1 t.2.2.2.2) hh (((((a, b), c), ((d, e), f)), (((g, h), j), ((k, l), m))), ((((n, o), p), ((q, r), s)), (((u, v), w), (x, y))))
noncomputable def zv24 {A B C D E F G H I J K L M N O Q R S T U V W X Y : Type} (i : Nonempty (((((A × B) × C) × ((D × E) × F)) × (((G × H) × I) × ((J × K) × L))) × ((((M × N) × O) × ((Q × R) × S)) × (((T × U) × V) × ((W × X) × Y))))) (P : A → B → C → D → E → F → G → H → I → J → K → L → M → N → O → Q → R → S → T → U → V → W → X → Y → Prop) : (((((A × B) × C) × ((D × E) × F)) × (((G × H) × I) × ((J × K) × L))) × ((((M × N) × O) × ((Q × R) × S)) × (((T × U) × V) × ((W × X) × Y)))) := eps i fun t => P t.1.1.1.1.1 t.1.1.1.1.2 t.1.1.1.2 t.1.1.2.1.1 t.1.1.2.1.2 t.1.1.2.2 t.1.2.1.1.1 t.1.2.1.1.2 t.1.2.1.2 t.1.2.2.1.1 t.1.2.2.1.2 t.1.2.2.2 t.2.1.1.1.1 t.2.1.1.1.2 t.2.1.1.2 t.2.1.2.1.1 t.2.1.2.1.2 t.2.1.2.2 t.2.2.1.1.1 t.2.2.1.1.2 t.2.2.1.2 t.2.2.2.1.1 t.2.2.2.1.2 t.2.2.2.2
theorem zl24 {A B C D E F G H I J K L M N O Q R S T U V W X Y : Type} [i : Nonempty (((((A × B) × C) × ((D × E) × F)) × (((G × H) × I) × ((J × K) × L))) × ((((M × N) × O) × ((Q × R) × S)) × (((T × U) × V) × ((W × X) × Y))))] {P : A → B → C → D → E → F → G → H → I → J → K → L → M → N → O → Q → R → S → T → U → V → W → X → Y → Prop} (hh : P (zv24 i P).1.1.1.1.1 (zv24 i P).1.1.1.1.2 (zv24 i P).1.1.1.2 (zv24 i P).1.1.2.1.1 (zv24 i P).1.1.2.1.2 (zv24 i P).1.1.2.2 (zv24 i P).1.2.1.1.1 (zv24 i P).1.2.1.1.2 (zv24 i P).1.2.1.2 (zv24 i P).1.2.2.1.1 (zv24 i P).1.2.2.1.2 (zv24 i P).1.2.2.2 (zv24 i P).2.1.1.1.1 (zv24 i P).2.1.1.1.2 (zv24 i P).2.1.1.2 (zv24 i P).2.1.2.1.1 (zv24 i P).2.1.2.1.2 (zv24 i P).2.1.2.2 (zv24 i P).2.2.1.1.1 (zv24 i P).2.2.1.1.2 (zv24 i P).2.2.1.2 (zv24 i P).2.2.2.1.1 (zv24 i P).2.2.2.1.2 (zv24 i P).2.2.2.2) : ∀ a b c d e f g h j k l m n o p q r s u v w x y z, P a b c d e f g h j k l m n o p q r s u v w x y z := fun a b c d e f g h j k l m n o p q r s u v w x y z => eps_all (i := i) (P := fun t : (((((A × B) × C) × ((D × E) × F)) × (((G × H) × I) × ((J × K) × L))) × ((((M × N) × O) × ((Q × R) × S)) × (((T × U) × V) × ((W × X) × Y)))) => P t.1.1.1.1.1 t.1.1.1.1.2 t.1.1.1.2 t.1.1.2.1.1 t.1.1.2.1.2 t.1.1.2.2 t.1.2.1.1.1 t.1.2.1.1.2 t.1.2.1.2 t.1.2.2.1.1 t.1.2.2.1.2 t.1.2.2.2 t.2.1.1.1.1 t.2.1.1.1.2 t.2.1.1.2 t.2.1.2.1.1 t.2.1.2.1.2 t.2.1.2.2 t.2.2.1.1.1 t.2.2.1.1.2 t.2.2.1.2 t.2.2.2.1.1 t.2.2.2.1.2 t.2.2.2.2) hh (((((a, b), c), ((d, e), f)), (((g, h), j), ((k, l), m))), ((((n, o), p), ((q, r), s)), (((u, v), w), ((x, y), z))))
noncomputable def epx {α : Type} (i : Nonempty α) (P : α → Prop) : α := eps i fun x => ¬ P x
theorem epx_ex {α : Type} {i : Nonempty α} {P : α → Prop} (h : ∃ x, P x) : P (epx i P) := Classical.byContradiction fun n => h.elim fun x y => eps_all (P := fun x => ¬ P x) n x y
noncomputable def wv1 {A : Type} (i : Nonempty A) (P : A → Prop) : A := epx i fun t => P t
theorem xl1 {A : Type} [i : Nonempty A] {P : A → Prop} : (∃ a, P a) → P (wv1 i P) := fun ⟨a, hh⟩ => epx_ex (i := i) (P := fun t : A => P t) ⟨a, hh⟩
noncomputable def wv2 {A B : Type} (i : Nonempty (A × B)) (P : A → B → Prop) : (A × B) := epx i fun t => P t.1 t.2
theorem xl2 {A B : Type} [i : Nonempty (A × B)] {P : A → B → Prop} : (∃ a b, P a b) → P (wv2 i P).1 (wv2 i P).2 := fun ⟨a, b, hh⟩ => epx_ex (i := i) (P := fun t : (A × B) => P t.1 t.2) ⟨(a, b), hh⟩
noncomputable def wv3 {A B C : Type} (i : Nonempty ((A × B) × C)) (P : A → B → C → Prop) : ((A × B) × C) := epx i fun t => P t.1.1 t.1.2 t.2
theorem xl3 {A B C : Type} [i : Nonempty ((A × B) × C)] {P : A → B → C → Prop} : (∃ a b c, P a b c) → P (wv3 i P).1.1 (wv3 i P).1.2 (wv3 i P).2 := fun ⟨a, b, c, hh⟩ => epx_ex (i := i) (P := fun t : ((A × B) × C) => P t.1.1 t.1.2 t.2) ⟨((a, b), c), hh⟩
noncomputable def wv4 {A B C D : Type} (i : Nonempty ((A × B) × (C × D))) (P : A → B → C → D → Prop) : ((A × B) × (C × D)) := epx i fun t => P t.1.1 t.1.2 t.2.1 t.2.2
theorem xl4 {A B C D : Type} [i : Nonempty ((A × B) × (C × D))] {P : A → B → C → D → Prop} : (∃ a b c d, P a b c d) → P (wv4 i P).1.1 (wv4 i P).1.2 (wv4 i P).2.1 (wv4 i P).2.2 := fun ⟨a, b, c, d, hh⟩ => epx_ex (i := i) (P := fun t : ((A × B) × (C × D)) => P t.1.1 t.1.2 t.2.1 t.2.2) ⟨((a, b), (c, d)), hh⟩
end
section
open Lean
def wPath : Nat → Nat → Nat → Term → MacroM Term
 | 0, _, _, t => pure t
 | f + 1, m, j, t => if m ≤ 1 then pure t else do
  let l := (m + 1) / 2
  if j < l then wPath f l j (← `($t.1)) else wPath f (m - l) (j - l) (← `($t.2))
def wGens (z : String) (ys : Array Ident) : MacroM (Array (TSyntax ``Parser.Tactic.generalizeArg)) := do
 let t ← `(($(mkIdent (.mkSimple (z ++ toString ys.size))) _ _))
 let mut gs := #[]
 for y in ys do
  let u ← wPath 9 ys.size gs.size t
  gs := gs.push (← `(Parser.Tactic.generalizeArg| $u:term = $y:ident))
 return gs
def wChoose : Nat → Array Ident → TSyntax `tactic → MacroM (TSyntax `tactic)
 | 0, _, r => pure r
 | f + 1, ys, r => if ys.isEmpty then pure r else do
  let m := if ys.size ≤ 24 then ys.size else 16
  let gs ← wGens "zv" (ys.extract 0 m)
  let r ← `(tactic| ($r; refine no_implicit_lambda% ($(mkIdent (.mkSimple s!"zl{m}")) ?_); with_reducible generalize $gs:generalizeArg,*))
  wChoose f (ys.extract m ys.size) r
def wLine (a b : String) : MacroM (TSyntax `tactic) := do
 let ids (s : String) : Array Ident := if s == "" then #[] else ((s.splitOn ",").map fun x => mkIdent x.toName).toArray
 let (ys, hs) := (ids a, ids b)
 if (a.splitOn ",").head! == (b.splitOn ",").head! then
  let q := hs[0]!
  let ys := ys.extract 1 ys.size
  let gs ← wGens "wv" ys
  `(tactic| (replace $q:ident := $(mkIdent (.mkSimple s!"xl{ys.size}")) $q; with_reducible generalize $gs:generalizeArg,* at $q:ident))
 else if hs.isEmpty then wChoose 9 ys (← `(tactic| revert $[$ys]*))
 else
  let r ← wChoose 9 ys (← `(tactic| (revert $[$hs]*; revert $[$ys]*)))
  `(tactic| ($r; intro $[$hs]*))
def wArg : Char → MacroM Term
 | 'a' => `(by assumption)
 | 'l' => `(by walk_at "look")
 | 'd' => `(by decide)
 | 'g' => `(fun _ => by first | exact $(mkIdent `Rv.int) _ _ | exact $(mkIdent `Rv.raw) _)
 | 'k' => `((by assumption : $(mkIdent `KeepOk) _ _ _ _))
 | 'p' => `(⟨_, rfl, ?_⟩)
 | 'q' => `(⟨rfl, ?_⟩)
 | 'm' => `($(mkIdent `IntMulOk.of_left) (by decide))
 | 'n' => `($(mkIdent `IntMulOk.of_right) (by decide))
 | _ => `(?_)
def wRule (s : String) : MacroM (TSyntax `tactic) := do
 let xs ← ((s.splitOn ":").getD 1 "_").toList.toArray.mapM wArg
 `(tactic| refine $(mkIdent (s.splitOn ":").head!.toName) $xs*)
def wAlt (s : String) : MacroM (TSyntax `tactic) := do
 match s.splitOn ">" with
 | [g, l] => `(tactic| ((with_reducible refine $(mkIdent g.toName) ?_); $(← wRule l):tactic))
 | _ => `(tactic| with_reducible $(← wRule s):tactic)
def wFirst (ts : List (TSyntax `tactic)) : MacroM (TSyntax `tactic) := do
 let ts ← ts.toArray.mapM fun t => `(Parser.Tactic.tacticSeq| $t:tactic)
 `(tactic| first $[| $ts]*)
end
local macro_rules | `(tactic| walk_at $s:str) => match s.getString.splitOn "|" with
 | [a, b] => wLine a b
 | _ => Lean.Macro.throwUnsupported
section
open PySem PySem.W PyProof.Rows PySem.Calls
set_option maxRecDepth 100000
set_option maxHeartbeats 8000000
structure DefParts where
 params : Arguments
 body : List Stmt
 scope : Scope
noncomputable def partsOf : Stmt → Option DefParts
 | .FunctionDef _ a b _ _ _ sc _ _ _ => some ⟨a, b, sc⟩
 | _ => none
noncomputable def topDef (i : Nat) : Option DefParts := (PySem.Challenge.pw_om0136_01.main.body[i]?).bind partsOf
noncomputable def clsDef (i j : Nat) : Option DefParts := match PySem.Challenge.pw_om0136_01.main.body[i]? with
 | some (.ClassDef _ _ _ b _ _ _ _ _ _ _) => (b[j]?).bind partsOf
 | _ => none
noncomputable def frg (h : Heap) : Frag := (List.range 210).filterMap fun a => (h.get? a).map fun o => (a, o)
noncomputable abbrev FnT := Arguments × FuncBody × Scope × Addr × List (Str × Addr) × Value × Addr × Bool
noncomputable def codeB (K : Frag) (cd : Value) (q : Str) : Bool := match cd with
 | .ref c => match K.lookup c with
  | some ⟨_, _, .fields vs, _⟩ => match (vs[1]? : Option Value) with
   | some (.str x _) => decide (x = q)
   | _ => false
  | _ => false
 | _ => false
noncomputable def fnO (K : Frag) (a : Addr) : Option FnT := match K.lookup a with
 | some ⟨_, _, .func fd, _⟩ => some (fd.params, fd.body, fd.scope, fd.globals, fd.closure, fd.defaults, fd.builtins, codeB K fd.code fd.qualname)
 | _ => none
noncomputable def fnE (dv : Value) (p : Option DefParts) : Option FnT := p.map fun p => (p.params, .stmts p.body, p.scope, mainGlobals, [], dv, builtinsNs, true)
noncomputable def fnsO (K : Frag) : List (Option FnT) := [28, 35, 162, 169, 176, 183, 190, 197, 204, 209, 87, 94, 101, 106, 113, 120, 134, 141, 50].map (fnO K)
noncomputable def fnsE : List (Option FnT) := [fnE .none (topDef 5), fnE .none (topDef 6), fnE .none (topDef 14), fnE .none (topDef 15), fnE .none (topDef 16), fnE .none (topDef 17), fnE .none (topDef 19), fnE .none (topDef 20), fnE .none (topDef 21), fnE .none (topDef 22),
 fnE (.ref 80) (clsDef 12 0), fnE .none (clsDef 12 1), fnE .none (clsDef 12 2), fnE .none (clsDef 12 3), fnE .none (clsDef 12 4), fnE .none (clsDef 12 5), fnE .none (clsDef 12 7), fnE .none (clsDef 12 8), fnE .none (clsDef 10 1)]
noncomputable def fldB (K : Frag) (x : Str) : Bool := plainGet K 151 x && (findIn K (.ref 151) x == some none && takerIn K 151 x == some none)
noncomputable def mthB (K : Frag) (x : Str) (a : Addr) : Bool := plainGet K 151 x && (findIn K (.ref 151) x == some (some (.ref a)) && isFn K (.ref a))
noncomputable def sltB (K : Frag) (x : Str) (i : Nat) (p : Addr) : Bool := plainGet K 54 x && (findIn K (.ref 54) x == some (some (.ref p)) && (specialIn K (.ref p) "__get__" == some (some (.builtin "member_descriptor.__get__")) && (takesIn K (.ref p) == some true &&
 (slotIn K p 54 == some i && (takerIn K 54 x == some (some (.ref p)) && typeIn K (.ref p) == some (.type "member_descriptor"))))))
noncomputable def mkB (K : Frag) (C f : Addr) : Bool := makesIn K C && (findIn K (.ref C) "__init__" == some (some (.ref f)) && (typeIn K (.ref f) == some (.type "function") && (keepIn K (.ref C) && (findIn K (.ref C) "__setattr__" == some (some (.builtin "object.__setattr__")) && plainOver K C))))
noncomputable def tupB (K : Frag) : Bool := match K.lookup 80 with
 | some ⟨_, _, .seq vs _, _⟩ => vs == #[.none]
 | _ => false
noncomputable def clsB (K : Frag) : Bool := fldB K (Str.ofString "_node2info") && (fldB K (Str.ofString "_ready_nodes") && (fldB K (Str.ofString "_npassedout") && (fldB K (Str.ofString "_nfinished") && (mthB K (Str.ofString "_get_nodeinfo") 94 && (mthB K (Str.ofString "add") 101 && (mthB K (Str.ofString "prepare") 106 && (mthB K (Str.ofString "get_ready") 113 &&
 (mthB K (Str.ofString "is_active") 120 && (mthB K (Str.ofString "done") 134 && (mthB K (Str.ofString "_find_cycle") 141 && (sltB K (Str.ofString "node") 0 55 && (sltB K (Str.ofString "npredecessors") 1 56 && (sltB K (Str.ofString "successors") 2 57 && (mkB K 151 87 && (mkB K 54 50 && (hasDictIn K 151 && (isClsIn K 54 &&
 (fnIn K 101 && (specialIn K (.ref 101) "__get__" == some (some (.builtin "function.__get__")) && (takesIn K (.ref 101) == some false && tupB K))))))))))))))))))))
noncomputable def refB (m : Str → Option Value) (x : String) (a : Nat) : Bool := m (Str.ofString x) == some (.ref a)
noncomputable def numB (m : Str → Option Value) (x : String) (i : Int) : Bool := match m (Str.ofString x) with
 | some (.int j _) => decide (j = i)
 | _ => false
noncomputable def noB (m : Str → Option Value) (x : String) : Bool := (m (Str.ofString x)).isNone
noncomputable def mgB (m : Str → Option Value) : Bool := (refB m "_substitution_cost" 28 && (refB m "_levenshtein_distance" 35 && (refB m "heappush" 162 && (refB m "heappop" 169 && (refB m "_siftdown" 176 && (refB m "_siftup" 183 && (refB m "_law_word" 190 && (refB m "_law_steps" 197 && (refB m "_law_ways" 204 && (refB m "_NodeInfo" 54 && (refB m "CycleError" 69 && (refB m "law" 209 && refB m "TopologicalSorter" 151)))))))))))) &&
 ((numB m "_MAX_STRING_SIZE" 40 && (numB m "_MOVE_COST" 2 && (numB m "_CASE_COST" 1 && (numB m "_NODE_OUT" (-1) && numB m "_NODE_DONE" (-2))))) &&
 (noB m "len" && (noB m "range" && (noB m "min" && (noB m "list" && (noB m "sum" && (noB m "sorted" && (noB m "tuple" && (noB m "set" && (noB m "iter" && (noB m "bool" && (noB m "StopIteration" && noB m "ValueError"))))))))))))
noncomputable def qv : Program := view PySem.Challenge.pw_om0136_01 [11, 22]
noncomputable def lo : List Str := ["_wall", "__name__", "_MAX_STRING_SIZE", "_MOVE_COST", "_CASE_COST", "_substitution_cost", "_levenshtein_distance", "_NODE_OUT", "_NODE_DONE", "_NodeInfo", "TopologicalSorter", "heappush", "heappop", "_siftdown", "_siftup", "_law_word", "_law_steps", "_law_ways"].map Str.ofString
noncomputable def XtB (s : Shared) : Bool := mgB (s.heap.nsMap mainGlobals)
noncomputable def YfB (s : Shared) : Bool × List (Option FnT) := (clsB (frg s.heap), fnsO (frg s.heap))
theorem left : LeftO PySem.Challenge.pw_om0136_01 qv lo XtB YfB (fun _ => (true, fnsE)) 2970 := fun w => by
 obtain ⟨⟨h, g, d, t, os⟩, h1, h2⟩ := Option.map_eq_some_iff.mp (boot_open (p := PySem.Challenge.pw_om0136_01) (N := 2970) (by rfl) (by rfl) (fun s => by rfl) w)
 obtain ⟨rfl, rfl, rfl, rfl⟩ : h = boot_heap w.params ∧ g = Array.mk [] ∧ d = boot_drawn ∧ t = boot_toks := by simpa only [Prod.mk.injEq] using h2
 unfold openEnds
 rw [h1, Option.bind_some]
 unfold topFrom
 try rw [Fast.te14082659384304107361]
 try rw [Fast.te4187177175401517315]
 try rw [Fast.te14364793385576792824]
 kernel_rfl
theorem well_said : PySem.Challenge.rw_om0136_01.wellSaid = true := by
 unfold OpenLaw.wellSaid OpenRow.wellSaid OpenRow.partSaid looksOpen
 repeat' with_reducible refine look_both ?_ ?_
 all_goals (as_aux_lemma => decide +kernel)
end
section
open PySem PySem.W PyProof.Rows

noncomputable abbrev Mem := Addr → Option Obj
noncomputable def Mem.Le (Z Z' : Mem) : Prop := ∀ a o, Z a = some o → Z' a = some o
theorem Mem.Le.refl (Z : Mem) : Mem.Le Z Z := fun _ _ h => h
theorem Mem.Le.trans {Z Z' Z'' : Mem} (x : Mem.Le Z Z') (y : Mem.Le Z' Z'') : Mem.Le Z Z'' := fun a o h => y a o (x a o h)

inductive V where
 | none
 | bool (b : Bool)
 | int (i : Int)
 | str (x : Str)
 | tup (xs : List V)
 | lst (xs : List V)
 | dct (kvs : List (Int × V))
 | ref (a : Addr)
 | nx (a : Addr)
 | rng (a b c : Int)
 | slc (lo hi st : Option Int)
 | vals (kvs : List (Int × V))
 | itms (kvs : List (Int × V))
 | bm (f a : Addr)
 | exc (e C : Addr) (xs : List V)
 | xtup (xs : List V)
 | raw (v : Value)

instance : Nonempty V := ⟨.none⟩
noncomputable def SeqObj (T : String) (o : Obj) (items : List Value) : Prop := ∃ n, o = { cls := .type T, dict := none, data := .seq items.toArray n, slots := #[] }
theorem SeqObj.parts {T : String} {o : Obj} {items : List Value} (h : SeqObj T o items) : o.cls = .type T ∧ o.dict = none ∧ ∃ n, o.data = .seq items.toArray n := by
 obtain ⟨n, rfl⟩ := h
 exact ⟨rfl, rfl, n, rfl⟩

section
variable (prog : Program) (w : World)
mutual
inductive Rv (Z : Mem) : V → Value → Prop
 | none : Rv Z .none .none
 | bool (b : Bool) : Rv Z (.bool b) (.bool b)
 | int (i : Int) (t : Tok) : Rv Z (.int i) (.int i t)
 | str (x : Str) (t : Tok) : Rv Z (.str x) (.str x t)
 | tup (a : Addr) (o : Obj) (xs : List V) (items : List Value) (hz : Z a = some o) (ho : SeqObj "tuple" o items) (h : Rvs Z xs items) : Rv Z (.tup xs) (.ref a)
 | lst (a : Addr) (o : Obj) (xs : List V) (items : List Value) (hz : Z a = some o) (ho : SeqObj "list" o items) (h : Rvs Z xs items) : Rv Z (.lst xs) (.ref a)
 | dct (a : Addr) (o : Obj) (kvs : List (Int × V)) (kvr : List (Int × Value)) (hm : a ≠ sysModules) (hz : Z a = some o) (ho : o.IsDictOf (intKind prog w) kvr) (h : Rks Z kvs kvr) : Rv Z (.dct kvs) (.ref a)
 | ref (a : Addr) : Rv Z (.ref a) (.ref a)
 | nx (a b : Addr) (o : Obj) (hz : Z b = some o) (ho : o = { cls := .type "method-wrapper", data := .fields #[.builtin "list_iterator.__next__", .ref a] }) : Rv Z (.nx a) (.ref b)
 | rng (r : Addr) (a b c : Int) (t u v : Tok) (hz : Z r = some { cls := .type "range", dict := none, data := .fields #[.int a t, .int b u, .int c v], slots := #[] }) : Rv Z (.rng a b c) (.ref r)
 | vals (e a : Addr) (oe o : Obj) (kvs : List (Int × V)) (kvr : List (Int × Value)) (he : Z e = some oe) (hc : oe.cls = .type "dict_values") (hd : oe.data = .fields #[.ref a]) (hm : a ≠ sysModules) (hz : Z a = some o) (ho : o.IsDictOf (intKind prog w) kvr) (h : Rks Z kvs kvr) : Rv Z (.vals kvs) (.ref e)
 | itms (e a : Addr) (oe o : Obj) (kvs : List (Int × V)) (kvr : List (Int × Value)) (he : Z e = some oe) (hc : oe.cls = .type "dict_items") (hd : oe.data = .fields #[.ref a]) (hm : a ≠ sysModules) (hz : Z a = some o) (ho : o.IsDictOf (intKind prog w) kvr) (h : Rks Z kvs kvr) : Rv Z (.itms kvs) (.ref e)
 | slc (a : Addr) (o : Obj) (lo hi st : Option Int) (vl vu vs : Value) (hz : Z a = some o) (hc : o.cls = .type "slice") (hd : o.data = .fields #[vl, vu, vs]) (pl : IsPart vl lo) (pu : IsPart vu hi) (ps : IsPart vs st) : Rv Z (.slc lo hi st) (.ref a)
 | bm (f a b : Addr) (o : Obj) (hz : Z b = some o) (ho : o = { cls := .type "method", data := .fields #[.ref f, .ref a] }) : Rv Z (.bm f a) (.ref b)
 | exc (C e t : Addr) (oe ot : Obj) (ws : Array Value) (n : Nat) (xs : List V) (items : List Value) (he : Z e = some oe) (hc : oe.cls = .ref C) (hd : oe.data = .fields ws) (h0 : ws[0]? = some (.ref t)) (h2 : ws[2]? = some .none) (ht : Z t = some ot) (htc : ot.cls = .type "tuple") (htd : ot.data = .seq items.toArray n) (h : Rvs Z xs items) : Rv Z (.exc e C xs) (.ref e)
 | xtup (t : Addr) (ot : Obj) (n : Nat) (xs : List V) (items : List Value) (ht : Z t = some ot) (htc : ot.cls = .type "tuple") (htd : ot.data = .seq items.toArray n) (h : Rvs Z xs items) : Rv Z (.xtup xs) (.ref t)
 | raw (v : Value) : Rv Z (.raw v) v
inductive Rvs (Z : Mem) : List V → List Value → Prop
 | nil : Rvs Z [] []
 | cons (v : V) (x : Value) (vs : List V) (xs : List Value) (h : Rv Z v x) (r : Rvs Z vs xs) : Rvs Z (v :: vs) (x :: xs)
inductive Rks (Z : Mem) : List (Int × V) → List (Int × Value) → Prop
 | nil : Rks Z [] []
 | cons (k : Int) (v : V) (x : Value) (vs : List (Int × V)) (xs : List (Int × Value)) (h : Rv Z v x) (r : Rks Z vs xs) : Rks Z ((k, v) :: vs) ((k, x) :: xs)
end
end

variable {prog : Program} {w : World} {Z Z' : Mem}
theorem Rv.mono (hZ : Mem.Le Z Z') {v : V} {x : Value} (h : Rv prog w Z v x) : Rv prog w Z' v x :=
 Rv.rec (motive_1 := fun v x _ => Rv prog w Z' v x) (motive_2 := fun v x _ => Rvs prog w Z' v x) (motive_3 := fun v x _ => Rks prog w Z' v x)
  .none .bool .int .str (fun a o xs items hz ho _ ih => .tup a o xs items (hZ _ _ hz) ho ih) (fun a o xs items hz ho _ ih => .lst a o xs items (hZ _ _ hz) ho ih)
  (fun a o xs items hm hz ho _ ih => .dct a o xs items hm (hZ _ _ hz) ho ih) .ref (fun a b o hz => .nx a b o (hZ _ _ hz)) (fun r a b c t u v hz => .rng r a b c t u v (hZ _ _ hz))
  (fun e a oe o kvs kvr he hc hd hm hz ho _ ih => .vals e a oe o kvs kvr (hZ _ _ he) hc hd hm (hZ _ _ hz) ho ih)
  (fun e a oe o kvs kvr he hc hd hm hz ho _ ih => .itms e a oe o kvs kvr (hZ _ _ he) hc hd hm (hZ _ _ hz) ho ih)
  (fun a o lo hi st vl vu vs hz => .slc a o lo hi st vl vu vs (hZ _ _ hz)) (fun f a b o hz => .bm f a b o (hZ _ _ hz))
  (fun C e t oe ot ws n xs items he hc hd h0 h2 ht htc htd _ ih => .exc C e t oe ot ws n xs items (hZ _ _ he) hc hd h0 h2 (hZ _ _ ht) htc htd ih)
  (fun t ot n xs items ht htc htd _ ih => .xtup t ot n xs items (hZ _ _ ht) htc htd ih) .raw .nil (fun v x vs xs _ _ h r => .cons v x vs xs h r) .nil (fun k v x vs xs _ _ h r => .cons k v x vs xs h r) h
theorem Rvs.mono (hZ : Mem.Le Z Z') {v : List V} {x : List Value} (h : Rvs prog w Z v x) : Rvs prog w Z' v x :=
 Rvs.rec (motive_1 := fun v x _ => Rv prog w Z' v x) (motive_2 := fun v x _ => Rvs prog w Z' v x) (motive_3 := fun v x _ => Rks prog w Z' v x)
  .none .bool .int .str (fun a o xs items hz ho _ ih => .tup a o xs items (hZ _ _ hz) ho ih) (fun a o xs items hz ho _ ih => .lst a o xs items (hZ _ _ hz) ho ih)
  (fun a o xs items hm hz ho _ ih => .dct a o xs items hm (hZ _ _ hz) ho ih) .ref (fun a b o hz => .nx a b o (hZ _ _ hz)) (fun r a b c t u v hz => .rng r a b c t u v (hZ _ _ hz))
  (fun e a oe o kvs kvr he hc hd hm hz ho _ ih => .vals e a oe o kvs kvr (hZ _ _ he) hc hd hm (hZ _ _ hz) ho ih)
  (fun e a oe o kvs kvr he hc hd hm hz ho _ ih => .itms e a oe o kvs kvr (hZ _ _ he) hc hd hm (hZ _ _ hz) ho ih)
  (fun a o lo hi st vl vu vs hz => .slc a o lo hi st vl vu vs (hZ _ _ hz)) (fun f a b o hz => .bm f a b o (hZ _ _ hz))
  (fun C e t oe ot ws n xs items he hc hd h0 h2 ht htc htd _ ih => .exc C e t oe ot ws n xs items (hZ _ _ he) hc hd h0 h2 (hZ _ _ ht) htc htd ih)
  (fun t ot n xs items ht htc htd _ ih => .xtup t ot n xs items (hZ _ _ ht) htc htd ih) .raw .nil (fun v x vs xs _ _ h r => .cons v x vs xs h r) .nil (fun k v x vs xs _ _ h r => .cons k v x vs xs h r) h
theorem Rks.mono (hZ : Mem.Le Z Z') {v : List (Int × V)} {x : List (Int × Value)} (h : Rks prog w Z v x) : Rks prog w Z' v x :=
 Rks.rec (motive_1 := fun v x _ => Rv prog w Z' v x) (motive_2 := fun v x _ => Rvs prog w Z' v x) (motive_3 := fun v x _ => Rks prog w Z' v x)
  .none .bool .int .str (fun a o xs items hz ho _ ih => .tup a o xs items (hZ _ _ hz) ho ih) (fun a o xs items hz ho _ ih => .lst a o xs items (hZ _ _ hz) ho ih)
  (fun a o xs items hm hz ho _ ih => .dct a o xs items hm (hZ _ _ hz) ho ih) .ref (fun a b o hz => .nx a b o (hZ _ _ hz)) (fun r a b c t u v hz => .rng r a b c t u v (hZ _ _ hz))
  (fun e a oe o kvs kvr he hc hd hm hz ho _ ih => .vals e a oe o kvs kvr (hZ _ _ he) hc hd hm (hZ _ _ hz) ho ih)
  (fun e a oe o kvs kvr he hc hd hm hz ho _ ih => .itms e a oe o kvs kvr (hZ _ _ he) hc hd hm (hZ _ _ hz) ho ih)
  (fun a o lo hi st vl vu vs hz => .slc a o lo hi st vl vu vs (hZ _ _ hz)) (fun f a b o hz => .bm f a b o (hZ _ _ hz))
  (fun C e t oe ot ws n xs items he hc hd h0 h2 ht htc htd _ ih => .exc C e t oe ot ws n xs items (hZ _ _ he) hc hd h0 h2 (hZ _ _ ht) htc htd ih)
  (fun t ot n xs items ht htc htd _ ih => .xtup t ot n xs items (hZ _ _ ht) htc htd ih) .raw .nil (fun v x vs xs _ _ h r => .cons v x vs xs h r) .nil (fun k v x vs xs _ _ h r => .cons k v x vs xs h r) h

noncomputable def RvI (prog : Program) (w : World) (Z : Mem) : V → Value → Prop
 | .none, x => ∃ _ : Unit, x = .none
 | .bool b, x => ∃ _ : Unit, x = .bool b
 | .int i, x => ∃ t, x = .int i t
 | .str y, x => ∃ t, x = .str y t
 | .tup xs, x => ∃ a o items, x = .ref a ∧ Z a = some o ∧ SeqObj "tuple" o items ∧ Rvs prog w Z xs items
 | .lst xs, x => ∃ a o items, x = .ref a ∧ Z a = some o ∧ SeqObj "list" o items ∧ Rvs prog w Z xs items
 | .dct kvs, x => ∃ a o kvr, x = .ref a ∧ a ≠ sysModules ∧ Z a = some o ∧ o.IsDictOf (intKind prog w) kvr ∧ Rks prog w Z kvs kvr
 | .ref a, x => ∃ _ : Unit, x = .ref a
 | .nx a, x => ∃ b o, x = .ref b ∧ Z b = some o ∧ o = { cls := .type "method-wrapper", data := .fields #[.builtin "list_iterator.__next__", .ref a] }
 | .rng a b c, x => ∃ r t u v, x = .ref r ∧ Z r = some { cls := .type "range", dict := none, data := .fields #[.int a t, .int b u, .int c v], slots := #[] }
 | .raw v, x => ∃ _ : Unit, x = v
 | .vals kvs, x => ∃ e a oe o kvr, x = .ref e ∧ Z e = some oe ∧ oe.cls = .type "dict_values" ∧ oe.data = .fields #[.ref a] ∧ a ≠ sysModules ∧ Z a = some o ∧ o.IsDictOf (intKind prog w) kvr ∧ Rks prog w Z kvs kvr
 | .itms kvs, x => ∃ e a oe o kvr, x = .ref e ∧ Z e = some oe ∧ oe.cls = .type "dict_items" ∧ oe.data = .fields #[.ref a] ∧ a ≠ sysModules ∧ Z a = some o ∧ o.IsDictOf (intKind prog w) kvr ∧ Rks prog w Z kvs kvr
 | .bm f a, x => ∃ b o, x = .ref b ∧ Z b = some o ∧ o = { cls := .type "method", data := .fields #[.ref f, .ref a] }
 | .exc e C xs, x => ∃ t oe ot ws n items, x = .ref e ∧ Z e = some oe ∧ oe.cls = .ref C ∧ oe.data = .fields ws ∧ ws[0]? = some (.ref t) ∧ ws[2]? = some .none ∧ Z t = some ot ∧ ot.cls = .type "tuple" ∧ ot.data = .seq (List.toArray items) n ∧ Rvs prog w Z xs items
 | .xtup xs, x => ∃ t ot n items, x = .ref t ∧ Z t = some ot ∧ ot.cls = .type "tuple" ∧ ot.data = .seq (List.toArray items) n ∧ Rvs prog w Z xs items
 | .slc lo hi st, x => ∃ a o vl vu vs, x = .ref a ∧ Z a = some o ∧ o.cls = .type "slice" ∧ o.data = .fields #[vl, vu, vs] ∧ IsPart vl lo ∧ IsPart vu hi ∧ IsPart vs st
theorem Rv.inv {v : V} {x : Value} (h : Rv prog w Z v x) : RvI prog w Z v x :=
 Rv.casesOn (motive_1 := fun v x _ => RvI prog w Z v x) h ⟨(), rfl⟩ (fun _ => ⟨(), rfl⟩) (fun _ t => ⟨t, rfl⟩) (fun _ t => ⟨t, rfl⟩)
  (fun a o _ items hz ho h => ⟨a, o, items, rfl, hz, ho, h⟩) (fun a o _ items hz ho h => ⟨a, o, items, rfl, hz, ho, h⟩) (fun a o _ items hm hz ho h => ⟨a, o, items, rfl, hm, hz, ho, h⟩)
  (fun _ => ⟨(), rfl⟩) (fun _ b o hz ho => ⟨b, o, rfl, hz, ho⟩) (fun r _ _ _ t u v hz => ⟨r, t, u, v, rfl, hz⟩)
  (fun e a oe o _ kvr he hc hd hm hz ho h => ⟨e, a, oe, o, kvr, rfl, he, hc, hd, hm, hz, ho, h⟩) (fun e a oe o _ kvr he hc hd hm hz ho h => ⟨e, a, oe, o, kvr, rfl, he, hc, hd, hm, hz, ho, h⟩)
  (fun a o _ _ _ vl vu vs hz hc hd pl pu ps => ⟨a, o, vl, vu, vs, rfl, hz, hc, hd, pl, pu, ps⟩) (fun _ _ b o hz ho => ⟨b, o, rfl, hz, ho⟩)
  (fun C e t oe ot ws n _ items he hc hd h0 h2 ht htc htd h => ⟨t, oe, ot, ws, n, items, rfl, he, hc, hd, h0, h2, ht, htc, htd, h⟩)
  (fun t ot n _ items ht htc htd h => ⟨t, ot, n, items, rfl, ht, htc, htd, h⟩) (fun _ => ⟨(), rfl⟩)

inductive O where
 | list (xs : List V)
 | dict (kvs : List (Int × V))
 | set (S : Int → Bool) (n : Nat)
 | iter (xs : List V) (i : Nat)
 | inst (C d : Addr)
 | ns (fs : List (Str × V))
 | node (C : Addr) (vs : List (Option V))

instance : Nonempty O := ⟨.list []⟩
section
variable (prog : Program) (w : World)
inductive Rfs (Z : Mem) : List (Str × V) → List DictEntry → Prop
 | nil : Rfs Z [] []
 | cons (k : Str) (t : Tok) (v : V) (x : Value) (vs : List (Str × V)) (xs : List DictEntry) (h : Rv prog w Z v x) (r : Rfs Z vs xs) :
   Rfs Z ((k, v) :: vs) (⟨PyData.keyHash w.params k, .str k t, x⟩ :: xs)

noncomputable def OIs (Z : Mem) : O → Obj → Prop
 | .list xs, o => ∃ items, SeqObj "list" o items ∧ Rvs prog w Z xs items
 | .dict kvs, o => ∃ kvr, o.IsDictOf (intKind prog w) kvr ∧ Rks prog w Z kvs kvr
 | .set S n, o => o.SetObjOf (intKind prog w) S n
 | .iter xs i, o => ∃ l ol items, o = { cls := .type "list_iterator", data := .fields #[.ref l, .int i 0] } ∧ Z l = some ol ∧ SeqObj "list" ol items ∧ Rvs prog w Z xs items
 | .inst C d, o => o = { cls := .ref C, dict := some d }
 | .ns fs, o => ∃ es n, o = dictOf es n ∧ Rfs prog w Z fs es
 | .node C vs, o => ∃ xs d od, o = { cls := .ref C, dict := some d, data := .plain, slots := xs } ∧ Z d = some od ∧ xs.size = vs.length ∧ ∀ (i : Nat) v, vs[i]? = some (some v) → ∃ x, xs[i]? = some (some x) ∧ Rv prog w Z v x
end

theorem Rfs.mono (hZ : Mem.Le Z Z') {fs : List (Str × V)} {es : List DictEntry} (h : Rfs prog w Z fs es) : Rfs prog w Z' fs es := by
 induction h with
 | nil => exact .nil
 | cons k t v x vs xs h _ ih => exact .cons k t v x vs xs (h.mono hZ) ih
theorem OIs.mono (hZ : Mem.Le Z Z') {o : O} {obj : Obj} (h : OIs prog w Z o obj) : OIs prog w Z' o obj := by
 cases o with
 | list xs => obtain ⟨i, a, b⟩ := h; exact ⟨i, a, b.mono hZ⟩
 | dict kvs => obtain ⟨i, a, b⟩ := h; exact ⟨i, a, b.mono hZ⟩
 | set S n => exact h
 | iter xs i => obtain ⟨l, ol, items, a, b, c, d⟩ := h; exact ⟨l, ol, items, a, hZ _ _ b, c, d.mono hZ⟩
 | inst C d => exact h
 | ns fs => obtain ⟨es, n, a, b⟩ := h; exact ⟨es, n, a, b.mono hZ⟩
 | node C vs => obtain ⟨xs, d, od, a, b, c, e⟩ := h; exact ⟨xs, d, od, a, hZ _ _ b, c, fun i v q => let ⟨x, y, z⟩ := e i v q; ⟨x, y, z.mono hZ⟩⟩

noncomputable abbrev Hp := Addr → Option O
noncomputable abbrev Loc := Str → Option V
noncomputable def Hp.put (H : Hp) (a : Addr) (o : O) : Hp := fun b => if b = a then some o else H b
noncomputable def Hp.del (H : Hp) (a : Addr) : Hp := fun b => if b = a then none else H b
noncomputable def Loc.put (m : Loc) (x : Str) (v : V) : Loc := fun y => if y = x then some v else m y

noncomputable def Keeps (o o' : Obj) : Prop := o' = o ∨ ((∃ es n, o.data = .dict es n) ∧ ∃ sl, o' = { o with slots := sl })
theorem Keeps.refl (o : Obj) : Keeps o o := .inl rfl
theorem Keeps.data {o o' : Obj} (h : Keeps o o') : o'.data = o.data := by
 rcases h with rfl | ⟨_, sl, rfl⟩ <;> rfl
theorem Keeps.exact {o o' : Obj} (h : Keeps o o') (hd : ∀ es n, o.data ≠ .dict es n) : o' = o := h.resolve_right fun ⟨⟨es, n, e⟩, _⟩ => hd es n e
theorem Keeps.trans {o o' o'' : Obj} (h : Keeps o o') (k : Keeps o' o'') : Keeps o o'' := by
 walk_at "o,o',o''|h,k"
 rcases h with rfl | ⟨d, sl, rfl⟩
 ·exact k
 ·rcases k with rfl | ⟨_, sl', rfl⟩
  ·exact .inr ⟨d, sl, rfl⟩
  ·exact .inr ⟨d, sl', rfl⟩
noncomputable def FrAt (h : Heap) (L : Addr) : Prop := ∃ o es n, h.get? L = some o ∧ o.data = .dict es n
theorem FrAt.keeps {h h' : Heap} {L : Addr} (x : FrAt h L) (k : ∀ b o, h.get? b = some o → h'.get? b = some o) : FrAt h' L := let ⟨o, es, n, a, b⟩ := x; ⟨o, es, n, k _ _ a, b⟩
structure Rep (prog : Program) (w : World) (s₀ : Shared) (fs : List Addr) (B Z : Mem) (H : Hp) (s : Shared) : Prop where
 kb : ∀ a o, B a = some o → ∃ o', s.heap.get? a = some o' ∧ Keeps o o'
 fr : ∀ L ∈ fs, H L = none ∧ Z L = none ∧ FrAt s.heap L
 kz : ∀ a o, Z a = some o → s.heap.get? a = some o
 dj : ∀ a o, B a = some o → Z a = none
 own : ∀ a o, H a = some o → B a = none ∧ Z a = none ∧ ∃ obj, s.heap.get? a = some obj ∧ OIs prog w Z o obj ∧ a ≠ sysModules
 lim : s₀.heap.NoLimit
 z0 : ∀ a o, s₀.heap.get? a = some o → Z a = some o
 gens : s.gens = #[]
 os : s.os = s₀.os

section
variable {s₀ s : Shared} {fs : List Addr} {B : Mem} {H : Hp}
theorem Rep.kbk (R : Rep prog w s₀ fs B Z H s) {h' : Heap} (hk : ∀ b o, s.heap.get? b = some o → h'.get? b = some o) (a : Addr) (o : Obj) (e : B a = some o) : ∃ o', h'.get? a = some o' ∧ Keeps o o' := let ⟨o', g, q⟩ := R.kb a o e; ⟨o', hk _ _ g, q⟩
theorem Rep.frk (R : Rep prog w s₀ fs B Z H s) {h' : Heap} (hk : ∀ b o, s.heap.get? b = some o → h'.get? b = some o) (L : Addr) (e : L ∈ fs) : H L = none ∧ Z L = none ∧ FrAt h' L := let ⟨a, b, c⟩ := R.fr L e; ⟨a, b, c.keeps hk⟩
theorem FrAt.ne {h : Heap} {L a : Addr} (x : FrAt h L) (ha : h.get? a = none) : L ≠ a := fun q => by obtain ⟨o, _, _, e, _⟩ := x; rw [q, ha] at e; (first | obtain ⟨_, rfl⟩ := e.inv | cases e)
theorem Rep.keeps (R : Rep prog w s₀ fs B Z H s) {h' : Heap} {t : Nat} (hk : ∀ b o, s.heap.get? b = some o → h'.get? b = some o) : Rep prog w s₀ fs B Z H { s with heap := h', toks := t } where
 kb := R.kbk hk
 fr := R.frk hk
 kz a o e := hk _ _ (R.kz a o e)
 dj := R.dj
 own a o e := let ⟨x, y, obj, z, u⟩ := R.own a o e; ⟨x, y, obj, hk _ _ z, u⟩
 z0 := R.z0
 gens := R.gens
 os := R.os
 lim := R.lim
theorem Rep.tok (R : Rep prog w s₀ fs B Z H s) (t : Nat) : Rep prog w s₀ fs B Z H { s with toks := t } := R.keeps (h' := s.heap) fun _ _ e => e
theorem Rep.kept0 (R : Rep prog w s₀ fs B Z H s) : ∀ b o, s₀.heap.get? b = some o → s.heap.get? b = some o := fun b o e => R.kz _ _ (R.z0 b o e)
theorem Rep.fresh (R : Rep prog w s₀ fs B Z H s) {a : Addr} (ha : s.heap.get? a = none) : B a = none ∧ Z a = none ∧ H a = none := by
 refine ⟨?_, ?_, ?_⟩
 ·cases h : B a with
  | none => rfl
  | some o => obtain ⟨_, q, _⟩ := R.kb _ _ h; rw [q] at ha; (first | obtain ⟨_, rfl⟩ := ha.inv | cases ha)
 ·cases h : Z a with
  | none => rfl
  | some o => rw [R.kz _ _ h] at ha; (first | obtain ⟨_, rfl⟩ := ha.inv | cases ha)
 ·cases h : H a with
  | none => rfl
  | some o => obtain ⟨_, _, obj, e, _⟩ := R.own _ _ h; rw [e] at ha; (first | obtain ⟨_, rfl⟩ := ha.inv | cases ha)
theorem Rep.nomods (R : Rep prog w s₀ fs B Z H s) : s.heap.objs.size ≠ sysModules := by
 have := modules_low (R.lim.keeps R.kept0)
 exact Nat.ne_of_gt this
theorem get?_size (h : Heap) : h.get? h.objs.size = none := by
 cases e : h.get? h.objs.size with
 | none => rfl
 | some o => exact absurd (Heap.lt_size e) (Nat.lt_irrefl _)
theorem Rep.alloc (R : Rep prog w s₀ fs B Z H s) {h' : Heap} {t : Nat} {a : Addr} {o : O} {obj : Obj} (ha : s.heap.get? a = none) (hk : ∀ b o, s.heap.get? b = some o → h'.get? b = some o)
  (hn : h'.get? a = some obj) (ho : OIs prog w Z o obj) (hm : a ≠ sysModules) : Rep prog w s₀ fs B Z (H.put a o) { s with heap := h', toks := t } where
 kb := R.kbk hk
 fr L e := by
  obtain ⟨x, y, z⟩ := R.frk hk L e
  exact ⟨by unfold Hp.put; rw [if_neg (FrAt.ne (R.fr L e).2.2 ha)]; exact x, y, z⟩
 kz a o e := hk _ _ (R.kz a o e)
 dj := R.dj
 own b o' e := by
  unfold Hp.put at e
  by_cases hb : b = a
  ·rw [if_pos hb] at e; (first | obtain ⟨_, rfl⟩ := e.inv | cases e); subst hb
   exact ⟨(R.fresh ha).1, (R.fresh ha).2.1, obj, hn, ho, hm⟩
  ·rw [if_neg hb] at e
   let ⟨x, y, obj, z, u⟩ := R.own b o' e; exact ⟨x, y, obj, hk _ _ z, u⟩
 z0 := R.z0
 gens := R.gens
 os := R.os
 lim := R.lim
noncomputable def Mem.put (Z : Mem) (a : Addr) (o : Obj) : Mem := fun b => if b = a then some o else Z b
theorem Mem.put_self (Z : Mem) (a : Addr) (o : Obj) : Mem.put Z a o a = some o := by simp [Mem.put]
theorem Mem.le_put {Z : Mem} {a : Addr} (h : Z a = none) (o : Obj) : Mem.Le Z (Mem.put Z a o) := fun b o' e => by
 unfold Mem.put
 by_cases hb : b = a
 ·subst hb; rw [h] at e; (first | obtain ⟨_, rfl⟩ := e.inv | cases e)
 ·rw [if_neg hb]; exact e
theorem Rep.allocZ (R : Rep prog w s₀ fs B Z H s) {h' : Heap} {t : Nat} {a : Addr} {obj : Obj} (ha : s.heap.get? a = none) (hk : ∀ b o, s.heap.get? b = some o → h'.get? b = some o)
  (hn : h'.get? a = some obj) : Rep prog w s₀ fs B (Z.put a obj) H { s with heap := h', toks := t } where
 kb := R.kbk hk
 fr L e := by
  obtain ⟨x, y, z⟩ := R.frk hk L e
  exact ⟨x, by unfold Mem.put; rw [if_neg (FrAt.ne (R.fr L e).2.2 ha)]; exact y, z⟩
 kz b o e := by
  unfold Mem.put at e
  by_cases hb : b = a
  ·rw [if_pos hb] at e; (first | obtain ⟨_, rfl⟩ := e.inv | cases e); subst hb; exact hn
  ·rw [if_neg hb] at e; exact hk _ _ (R.kz b o e)
 dj b o e := by
  unfold Mem.put
  by_cases hb : b = a
  ·subst hb; rw [(R.fresh ha).1] at e; (first | obtain ⟨_, rfl⟩ := e.inv | cases e)
  ·rw [if_neg hb]; exact R.dj b o e
 own b o' e := by
  let ⟨x, y, obj', z, u⟩ := R.own b o' e
  have hb : b ≠ a := fun h => by subst h; rw [ha] at z; (first | obtain ⟨_, rfl⟩ := z.inv | cases z)
  exact ⟨x, by unfold Mem.put; rw [if_neg hb]; exact y, obj', hk _ _ z, u.1.mono (Mem.le_put (R.fresh ha).2.1 _), u.2⟩
 z0 b o e := (Mem.le_put (R.fresh ha).2.1 _) _ _ (R.z0 b o e)
 gens := R.gens
 os := R.os
 lim := R.lim
theorem Rep.set (R : Rep prog w s₀ fs B Z H s) {h' : Heap} {t : Nat} {a : Addr} {o₀ o : O} {obj : Obj} (ha : H a = some o₀) (hs : Heap.SameBut a s.heap h')
  (hn : h'.get? a = some obj) (ho : OIs prog w Z o obj) : Rep prog w s₀ fs B Z (H.put a o) { s with heap := h', toks := t } where
 kb b o e := by
  have hb : b ≠ a := fun h => by subst h; rw [(R.own _ _ ha).1] at e; (first | obtain ⟨_, rfl⟩ := e.inv | cases e)
  obtain ⟨o', g, q⟩ := R.kb b o e
  exact ⟨o', (hs.2 b hb).trans g, q⟩
 fr L e := by
  obtain ⟨x, y, o', es, n, g, d⟩ := R.fr L e
  have hL : L ≠ a := fun h => by subst h; rw [ha] at x; (first | obtain ⟨_, rfl⟩ := x.inv | cases x)
  exact ⟨by unfold Hp.put; rw [if_neg hL]; exact x, y, o', es, n, (hs.2 L hL).trans g, d⟩
 kz b o e := by
  have hb : b ≠ a := fun h => by subst h; rw [(R.own _ _ ha).2.1] at e; (first | obtain ⟨_, rfl⟩ := e.inv | cases e)
  exact (hs.2 b hb).trans (R.kz b o e)
 dj := R.dj
 own b o' e := by
  unfold Hp.put at e
  by_cases hb : b = a
  ·rw [if_pos hb] at e; (first | obtain ⟨_, rfl⟩ := e.inv | cases e); subst hb
   exact ⟨(R.own _ _ ha).1, (R.own _ _ ha).2.1, obj, hn, ho, (let ⟨_, _, _, _, _, q⟩ := R.own _ _ ha; q)⟩
  ·rw [if_neg hb] at e
   let ⟨x, y, obj, z, u⟩ := R.own b o' e; exact ⟨x, y, obj, (hs.2 b hb).trans z, u⟩
 z0 := R.z0
 gens := R.gens
 os := R.os
 lim := R.lim
theorem Rep.less (R : Rep prog w s₀ fs B Z H s) {H' : Hp} (h : ∀ a o, H' a = some o → H a = some o) : Rep prog w s₀ fs B Z H' s where
 kb := R.kb
 fr L e := let ⟨x, y, z⟩ := R.fr L e; ⟨(by cases q : H' L with
  | none => rfl
  | some o => rw [h _ _ q] at x; (first | obtain ⟨_, rfl⟩ := x.inv | cases x)), y, z⟩
 kz := R.kz
 dj := R.dj
 own a o e := R.own a o (h a o e)
 z0 := R.z0
 gens := R.gens
 os := R.os
 lim := R.lim
theorem Rep.freeze (R : Rep prog w s₀ fs B Z H s) {a : Addr} {o : O} (ha : H a = some o) : ∃ obj, OIs prog w Z o obj ∧ Z a = none ∧ a ≠ sysModules ∧ Rep prog w s₀ fs B (Z.put a obj) (H.del a) s := by
 obtain ⟨hb, hz, obj, hg, ho, hm⟩ := R.own _ _ ha
 refine ⟨obj, ho, hz, hm, ?_⟩
 exact {
  kb := R.kb
  fr := fun L e => by
   obtain ⟨x, y, z⟩ := R.fr L e
   have hL : L ≠ a := fun h => by subst h; rw [ha] at x; (first | obtain ⟨_, rfl⟩ := x.inv | cases x)
   exact ⟨by unfold Hp.del; rw [if_neg hL]; exact x, by unfold Mem.put; rw [if_neg hL]; exact y, z⟩
  kz := fun b o e => by
   unfold Mem.put at e
   by_cases hb : b = a
   ·rw [if_pos hb] at e; (first | obtain ⟨_, rfl⟩ := e.inv | cases e); subst hb; exact hg
   ·rw [if_neg hb] at e; exact R.kz b o e
  dj := fun b o e => by
   unfold Mem.put
   by_cases hb' : b = a
   ·subst hb'; rw [hb] at e; (first | obtain ⟨_, rfl⟩ := e.inv | cases e)
   ·rw [if_neg hb']; exact R.dj b o e
  own := fun b o' e => by
   unfold Hp.del at e
   by_cases hb : b = a
   ·rw [if_pos hb] at e; (first | obtain ⟨_, rfl⟩ := e.inv | cases e)
   ·rw [if_neg hb] at e
    let ⟨x, y, obj', z, u⟩ := R.own b o' e
    exact ⟨x, by unfold Mem.put; rw [if_neg hb]; exact y, obj', z, u.1.mono (Mem.le_put hz _), u.2⟩
  z0 := fun b o e => (Mem.le_put hz _) _ _ (R.z0 b o e)
  gens := R.gens
  os := R.os
  lim := R.lim }
end
end
open PySem PySem.W PyProof.Rows
set_option maxRecDepth 100000
set_option maxHeartbeats 8000000
variable {prog : Program} {w : World} {s₀ s s' : Shared} {fs : List Addr} {B Z Z' : Mem} {H H' : Hp} {env : Env} {m m' : Loc} {A : Around} {mg mb : Str → Option Value}
noncomputable def frs (A : Around) : List Addr := (A.frames.getD []).filterMap (·.frame)
structure Frm (prog : Program) (w : World) (B Z : Mem) (H : Hp) (env : Env) (m : Loc) (h : Heap) : Prop where
 ns : ∃ mr, h.Ns env.locals mr ∧ ∀ x v, env.kindOf x = some .local → m x = some v → ∃ val, mr x = some val ∧ Rv prog w Z v val
 lb : B env.locals = none
 lz : Z env.locals = none
 lh : H env.locals = none
 cell : ∀ x, env.kindOf x = some .cell → ∃ c, env.cells.lookup x = some c ∧ ((env.locals < c ∧ ∃ ov, h.IsCell c ov ∧ (∀ v, m x = some v → ∃ val, ov = some val ∧ Rv prog w Z v val) ∧ B c = none ∧ Z c = none ∧ H c = none) ∨
  (¬ env.locals < c ∧ ∃ o, B c = some o ∧ (∃ ov, o.data = .cell ov) ∧ ∀ v, m x = some v → ∃ val, o.data = .cell (some val) ∧ Rv prog w Z v val))
 apart : ∀ x y c, env.kindOf x = some .cell → env.kindOf y = some .cell → env.locals < c → env.cells.lookup x = some c → env.cells.lookup y = some c → x = y
 free : ∀ x v, env.kindOf x = some .free → m x = some v → ∃ c o val, env.cells.lookup x = some c ∧ B c = some o ∧ o.data = .cell (some val) ∧ Rv prog w Z v val

structure RepF (prog : Program) (w : World) (s₀ : Shared) (fs : List Addr) (B Z : Mem) (env : Env) (m : Loc) (H : Hp) (s : Shared) : Prop where
 r : Rep prog w s₀ fs B Z H s
 f : Frm prog w B Z H env m s.heap

noncomputable def frameAt (env : Env) (a : Addr) : Prop := a = env.locals ∨ (env.locals < a ∧ ∃ x, env.kindOf x = some .cell ∧ env.cells.lookup x = some a)
open Classical in
noncomputable def Bx (B : Mem) (env : Env) (h : Heap) : Mem := fun a => if frameAt env a then h.get? a else B a

theorem Frm.at {h : Heap} (F : Frm prog w B Z H env m h) {a : Addr} (ha : frameAt env a) : B a = none ∧ Z a = none ∧ H a = none ∧ ∃ o, h.get? a = some o := by
 walk_at "prog,w,B,Z,H,env,m,h,a|F,ha"
 rcases ha with rfl | ⟨hlt, x, hx, hc⟩
 ·obtain ⟨mr, ⟨o, es, ep, ho, r⟩, _⟩ := F.ns
  exact ⟨F.lb, F.lz, F.lh, _, ho⟩
 ·obtain ⟨c, h1, h5⟩ := F.cell x hx
  rw [hc] at h1; (first | obtain ⟨_, rfl⟩ := h1.inv | cases h1)
  rcases h5 with ⟨_, ov, ⟨o, ho, _⟩, _, h2, h3, h4⟩ | ⟨hn, _⟩
  ·exact ⟨h2, h3, h4, o, ho⟩
  ·exact (hn hlt).elim

set_option tactic.hygienic true in
theorem RepF.enter (R : RepF prog w s₀ fs B Z env m H s) : Rep prog w s₀ fs (Bx B env s.heap) Z H s where
 kb a o e := by
  unfold Bx at e
  split at e
  ·exact ⟨o, e, .refl o⟩
  ·exact R.r.kb a o e
 fr := R.r.fr
 kz := R.r.kz
 dj a o e := by
  unfold Bx at e
  split at e
  ·rename_i h; exact (R.f.at h).2.1
  ·exact R.r.dj a o e
 own a o e := by
  obtain ⟨x, y, z⟩ := R.r.own a o e
  refine ⟨?_, y, z⟩
  unfold Bx
  split
  ·rename_i h; rw [(R.f.at h).2.2.1] at e; (first | obtain ⟨_, rfl⟩ := e.inv | cases e)
  ·exact x
 z0 := R.r.z0
 gens := R.r.gens
 os := R.r.os
 lim := R.r.lim

set_option tactic.hygienic true in
theorem RepF.back (R : RepF prog w s₀ fs B Z env m H s) (R' : Rep prog w s₀ fs (Bx B env s.heap) Z' H' s') (hZ : Mem.Le Z Z') : RepF prog w s₀ fs B Z' env m H' s' := by
 have inB : ∀ a o, B a = some o → Bx B env s.heap a = some o := fun a o e => by
  unfold Bx
  split
  ·rename_i h; rw [(R.f.at h).1] at e; (first | obtain ⟨_, rfl⟩ := e.inv | cases e)
  ·exact e
 have fr : ∀ a, frameAt env a → ∀ o, s.heap.get? a = some o → Bx B env s.heap a = some o := fun a h o e => by
  unfold Bx; rw [if_pos h]; exact e
 have hx : ∀ a, frameAt env a → Z' a = none ∧ H' a = none := fun a h => by
  obtain ⟨_, _, _, o, ho⟩ := R.f.at h
  refine ⟨R'.dj a o (fr a h o ho), ?_⟩
  cases e : H' a with
  | none => rfl
  | some q => have := (R'.own a q e).1; rw [fr a h o ho] at this; (first | obtain ⟨_, rfl⟩ := this.inv | cases this)
 refine ⟨?_, ?_⟩
 ·exact {
   kb := fun a o e => R'.kb a o (inB a o e)
   fr := R'.fr
   kz := R'.kz
   dj := fun a o e => R'.dj a o (inB a o e)
   own := fun a o e => by
    obtain ⟨x, y, z⟩ := R'.own a o e
    refine ⟨?_, y, z⟩
    cases hb : B a with
    | none => rfl
    | some q => rw [inB a q hb] at x; (first | obtain ⟨_, rfl⟩ := x.inv | cases x)
   z0 := R'.z0
   gens := R'.gens
   os := R'.os
   lim := R'.lim }
 ·exact {
   ns := by
    obtain ⟨mr, ⟨o, es, ep, ho, hd, r⟩, hm⟩ := R.f.ns
    obtain ⟨o', ho', hk'⟩ := R'.kb _ _ (fr _ (.inl rfl) _ ho)
    exact ⟨mr, ⟨o', es, ep, ho', hk'.data.trans hd, r⟩, fun x v hx hv => let ⟨val, a, b⟩ := hm x v hx hv; ⟨val, a, b.mono hZ⟩⟩
   lb := R.f.lb
   lz := (hx _ (.inl rfl)).1
   lh := (hx _ (.inl rfl)).2
   cell := fun x hxk => by
    obtain ⟨c, h1, h5⟩ := R.f.cell x hxk
    refine ⟨c, h1, ?_⟩
    rcases h5 with ⟨hlt, ov, ⟨o, ho, hd⟩, hv, h2, h3, h4⟩ | ⟨hn, o, hb, hq, hv⟩
    ·have hf : frameAt env c := .inr ⟨hlt, x, hxk, h1⟩
     obtain ⟨o', ho', hk'⟩ := R'.kb _ _ (fr _ hf _ ho)
     exact .inl ⟨hlt, ov, ⟨o', ho', hk'.data.trans hd⟩, fun v e => let ⟨val, a, b⟩ := hv v e; ⟨val, a, b.mono hZ⟩, h2, (hx _ hf).1, (hx _ hf).2⟩
    ·exact .inr ⟨hn, o, hb, hq, fun v e => let ⟨val, a, b⟩ := hv v e; ⟨val, a, b.mono hZ⟩⟩
   apart := R.f.apart
   free := fun x v hk hv => let ⟨c, o, val, h1, h2, h3, h4⟩ := R.f.free x v hk hv; ⟨c, o, val, h1, h2, h3, h4.mono hZ⟩ }

theorem RepF.less (R : RepF prog w s₀ fs B Z env m H s) (h : ∀ x v, m' x = some v → m x = some v) : RepF prog w s₀ fs B Z env m' H s where
 r := R.r
 f := {
  ns := let ⟨mr, a, b⟩ := R.f.ns; ⟨mr, a, fun x v hx hv => b x v hx (h x v hv)⟩
  lb := R.f.lb
  lz := R.f.lz
  lh := R.f.lh
  cell := fun x hx => by
   obtain ⟨c, h1, h5⟩ := R.f.cell x hx
   refine ⟨c, h1, ?_⟩
   rcases h5 with ⟨hlt, ov, a2, a3, a4⟩ | ⟨hn, o, hb, hq, hv⟩
   ·exact .inl ⟨hlt, ov, a2, fun v e => a3 v (h x v e), a4⟩
   ·exact .inr ⟨hn, o, hb, hq, fun v e => hv v (h x v e)⟩
  apart := R.f.apart
  free := fun x v hx hv => R.f.free x v hx (h x v hv) }

inductive PE (prog : Program) (w : World) (s₀ : Shared) (fs : List Addr) (B Z : Mem) (env : Env) (Q : V → Loc → Hp → Prop) (x : Value) (s' : Shared) : Prop
 | mk (v : V) (m' : Loc) (H' : Hp) (Z' : Mem) (l : Mem.Le Z Z') (R : RepF prog w s₀ fs B Z' env m' H' s') (r : Rv prog w Z' v x) (q : Q v m' H') : PE prog w s₀ fs B Z env Q x s'
inductive PV (prog : Program) (w : World) (s₀ : Shared) (fs : List Addr) (B Z : Mem) (Q : V → Hp → Prop) (x : Value) (s' : Shared) : Prop
 | mk (v : V) (H' : Hp) (Z' : Mem) (l : Mem.Le Z Z') (R : Rep prog w s₀ fs B Z' H' s') (r : Rv prog w Z' v x) (q : Q v H') : PV prog w s₀ fs B Z Q x s'
inductive PP {α : Type} (prog : Program) (w : World) (s₀ : Shared) (fs : List Addr) (B Z : Mem) (Q : α → Hp → Prop) (x : α) (s' : Shared) : Prop
 | mk (H' : Hp) (Z' : Mem) (l : Mem.Le Z Z') (R : Rep prog w s₀ fs B Z' H' s') (q : Q x H') : PP prog w s₀ fs B Z Q x s'
inductive PF {α : Type} (prog : Program) (w : World) (s₀ : Shared) (fs : List Addr) (B Z : Mem) (env : Env) (Q : α → Loc → Hp → Prop) (x : α) (s' : Shared) : Prop
 | mk (m' : Loc) (H' : Hp) (Z' : Mem) (l : Mem.Le Z Z') (R : RepF prog w s₀ fs B Z' env m' H' s') (q : Q x m' H') : PF prog w s₀ fs B Z env Q x s'

inductive Fl where
 | next | brk | cont
 | ret (v : V)
instance : Nonempty Fl := ⟨.next⟩
inductive RFl (prog : Program) (w : World) (Z : Mem) : Fl → Flow → Prop
 | next : RFl prog w Z .next .next
 | brk : RFl prog w Z .brk .brk
 | cont : RFl prog w Z .cont .cont
 | ret (v : V) (x : Value) (h : Rv prog w Z v x) : RFl prog w Z (.ret v) (.ret x)
inductive PS (prog : Program) (w : World) (s₀ : Shared) (fs : List Addr) (B Z : Mem) (env : Env) (Q : Fl → Loc → Hp → Prop) (x : Flow) (s' : Shared) : Prop
 | mk (f : Fl) (m' : Loc) (H' : Hp) (Z' : Mem) (l : Mem.Le Z Z') (R : RepF prog w s₀ fs B Z' env m' H' s') (r : RFl prog w Z' f x) (q : Q f m' H') : PS prog w s₀ fs B Z env Q x s'

noncomputable abbrev NoE : Value → Shared → Prop := fun _ _ => False

section
variable (prog : Program) (w : World) (s₀ : Shared) (A : Around)
structure TE (env : Env) (e : Expr) (Q : V → Loc → Hp → Prop) (m : Loc) (H : Hp) : Prop where
 run : ∀ B Z s, RepF prog w s₀ (frs A) B Z env m H s → wpAny (model prog w) A (eval e env) (PE prog w s₀ (frs A) B Z env Q) NoE s
structure TB (env : Env) (e : Expr) (Q : Bool → Loc → Hp → Prop) (m : Loc) (H : Hp) : Prop where
 run : ∀ B Z s, RepF prog w s₀ (frs A) B Z env m H s → wpAny (model prog w) A (isTrue e env (eval e env)) (PF prog w s₀ (frs A) B Z env Q) NoE s
structure TS (env : Env) (ss : List Stmt) (Q : Fl → Loc → Hp → Prop) (m : Loc) (H : Hp) : Prop where
 run : ∀ B Z s, RepF prog w s₀ (frs A) B Z env m H s → wpAny (model prog w) A (execs ss env) (PS prog w s₀ (frs A) B Z env Q) NoE s
structure T1 (env : Env) (st : Stmt) (Q : Fl → Loc → Hp → Prop) (m : Loc) (H : Hp) : Prop where
 run : ∀ B Z s, RepF prog w s₀ (frs A) B Z env m H s → wpAny (model prog w) A (exec st env) (PS prog w s₀ (frs A) B Z env Q) NoE s
structure TA (env : Env) (e : Expr) (v : V) (Q : Loc → Hp → Prop) (m : Loc) (H : Hp) : Prop where
 run : ∀ B Z s x, RepF prog w s₀ (frs A) B Z env m H s → Rv prog w Z v x → wpAny (model prog w) A (assign e env x) (PF prog w s₀ (frs A) B Z env fun _ => Q) NoE s
structure Op1 (t : Value → Sem Value) (a : V) (Q : V → Hp → Prop) (H : Hp) : Prop where
 run : ∀ B Z s x, Rep prog w s₀ (frs A) B Z H s → Rv prog w Z a x → wpAny (model prog w) A (t x) (PV prog w s₀ (frs A) B Z Q) NoE s
structure Op2 (t : Value → Value → Sem Value) (a b : V) (Q : V → Hp → Prop) (H : Hp) : Prop where
 run : ∀ B Z s x y, Rep prog w s₀ (frs A) B Z H s → Rv prog w Z a x → Rv prog w Z b y → wpAny (model prog w) A (t x y) (PV prog w s₀ (frs A) B Z Q) NoE s
structure OpB (t : Value → Sem Bool) (a : V) (Q : Bool → Hp → Prop) (H : Hp) : Prop where
 run : ∀ B Z s x, Rep prog w s₀ (frs A) B Z H s → Rv prog w Z a x → wpAny (model prog w) A (t x) (PP prog w s₀ (frs A) B Z Q) NoE s
structure OpU (t : Value → Value → Value → Sem Unit) (a b c : V) (Q : Hp → Prop) (H : Hp) : Prop where
 run : ∀ B Z s x y z, Rep prog w s₀ (frs A) B Z H s → Rv prog w Z a x → Rv prog w Z b y → Rv prog w Z c z → wpAny (model prog w) A (t x y z) (PP prog w s₀ (frs A) B Z fun _ => Q) NoE s
structure TC (f : V) (vs : List V) (Q : V → Hp → Prop) (H : Hp) : Prop where
 run : ∀ B Z s x xs, Rep prog w s₀ (frs A) B Z H s → Rv prog w Z f x → Rvs prog w Z vs xs → wpAny (model prog w) A (call x xs) (PV prog w s₀ (frs A) B Z Q) NoE s
end
/-! names -/
theorem TE.const_int {i k pos} {Q : V → Loc → Hp → Prop} (h : Q (.int i) m H) : TE prog w s₀ A env (.Constant (.int i) k pos) Q m H := .mk fun B Z s R =>
 wpAny_Constant_int ⟨.int i, m, H, Z, Mem.Le.refl _, ⟨R.r.tok _, R.f⟩, .int i _, h⟩
theorem TE.const_none {k pos} {Q : V → Loc → Hp → Prop} (h : Q .none m H) : TE prog w s₀ A env (.Constant .none k pos) Q m H := .mk fun B Z s R =>
 wpAny_Constant_none ⟨.none, m, H, Z, Mem.Le.refl _, R, .none, h⟩
theorem TE.const_bool {b k pos} {Q : V → Loc → Hp → Prop} (h : Q (.bool b) m H) : TE prog w s₀ A env (.Constant (.bool b) k pos) Q m H := .mk fun B Z s R =>
 wpAny_Constant_bool ⟨.bool b, m, H, Z, Mem.Le.refl _, R, .bool b, h⟩
theorem TE.const_str {x : Str} {k pos} {Q : V → Loc → Hp → Prop} (h : Q (.str x) m H) : TE prog w s₀ A env (.Constant (.str x) k pos) Q m H := .mk fun B Z s R =>
 wpAny_Constant_str ⟨.str x, m, H, Z, Mem.Le.refl _, ⟨R.r.tok _, R.f⟩, .str x _, h⟩

structure EnvOk (env : Env) : Prop where
 kind : env.scope.kind = .function
 globals : env.globals = mainGlobals
 builtins : env.builtins = builtinsNs

theorem load_local (hk : EnvOk env) {x : Str} {v : V} (hl : env.kindOf x = some .local) (hv : m x = some v) {Q : V → Loc → Hp → Prop} (h : Q v m H) (R : RepF prog w s₀ fs B Z env m H s) :
  wpAny (model prog w) A (loadName env x) (PE prog w s₀ fs B Z env Q) NoE s := by
 obtain ⟨mr, hn, hm⟩ := R.f.ns
 obtain ⟨val, h1, h2⟩ := hm x v hl hv
 exact wpAny_loadName_local hk.kind hl hn h1 ⟨v, m, H, Z, Mem.Le.refl _, R, h2, h⟩
theorem load_cell (hk : EnvOk env) {x : Str} {v : V} (hl : env.kindOf x = some .cell) (hv : m x = some v) {Q : V → Loc → Hp → Prop} (h : Q v m H) (R : RepF prog w s₀ fs B Z env m H s) :
  wpAny (model prog w) A (loadName env x) (PE prog w s₀ fs B Z env Q) NoE s := by
 walk_at "prog,w,s₀,s,fs,B,Z,H,env,m,A,x,v,Q|hk,hl,hv,h,R"
 have xq := R.f.cell x hl
 walk_at "xq,c|xq"
 obtain ⟨h1, h5⟩ := xq
 rcases h5 with ⟨_, ov, h2, h3, _⟩ | ⟨_, o, hb, h3⟩
 ·obtain ⟨val, rfl, h4⟩ := h3 v hv
  exact wpAny_loadName_cell hk.kind hl h1 h2 ⟨v, m, H, Z, Mem.Le.refl _, R, h4, h⟩
 ·obtain ⟨val, hd, h4⟩ := h3.2 v hv
  obtain ⟨o', ho', hk'⟩ := R.r.kb _ _ hb
  exact wpAny_loadName_cell hk.kind hl h1 ⟨o', ho', hk'.data.trans hd⟩ ⟨v, m, H, Z, Mem.Le.refl _, R, h4, h⟩
theorem load_free (hk : EnvOk env) {x : Str} {v : V} (hnc : (x == ("__classdict__" : Str)) = false) (hl : env.kindOf x = some .free) (hv : m x = some v) {Q : V → Loc → Hp → Prop} (h : Q v m H) (R : RepF prog w s₀ fs B Z env m H s) :
  wpAny (model prog w) A (loadName env x) (PE prog w s₀ fs B Z env Q) NoE s := by
 obtain ⟨c, o, val, h1, h2, h3, h4⟩ := R.f.free x v hl hv
 obtain ⟨o', ho', hk'⟩ := R.r.kb _ _ h2
 exact wpAny_loadName_free hk.kind hl h1 ⟨o', ho', hk'.data.trans h3⟩ ⟨v, m, H, Z, Mem.Le.refl _, R, h4, h⟩ hnc

noncomputable def heldN (env : Env) (x : Str) : Bool := (env.kindOf x == some .local || env.kindOf x == some .cell || env.kindOf x == some .free) && !(x == ("__classdict__" : Str)) && !(x == ("__debug__" : Str))
theorem load_held (hk : EnvOk env) {x : Str} {v : V} (hl : heldN env x = true) (hv : m x = some v) {Q : V → Loc → Hp → Prop} (h : Q v m H) (R : RepF prog w s₀ fs B Z env m H s) :
  wpAny (model prog w) A (loadName env x) (PE prog w s₀ fs B Z env Q) NoE s := by
 simp only [heldN, Bool.and_eq_true, Bool.or_eq_true, beq_iff_eq, Bool.not_eq_true'] at hl
 obtain ⟨⟨(hl | hl) | hl, hc⟩, _⟩ := hl
 ·exact load_local hk hl hv h R
 ·exact load_cell hk hl hv h R
 ·exact load_free hk hc hl hv h R
theorem TE.name (hk : EnvOk env) {x : Str} {pos : Pos} {v : V} {Q : V → Loc → Hp → Prop} (hl : heldN env x = true) (hv : m x = some v) (h : Q v m H) : TE prog w s₀ A env (.Name x pos) Q m H := .mk fun B Z s R =>
 wpAny_Name (load_held hk hl hv h R) (by simp only [heldN, Bool.and_eq_true, Bool.not_eq_true'] at hl; exact hl.2)

structure Glo (s₀ : Shared) (mg mb : Str → Option Value) : Prop where
 g : s₀.heap.Ns mainGlobals mg
 b : s₀.heap.Ns builtinsNs mb
 boot : ∀ x : Str, x ≠ "__name__" → mb x = bootBuiltins x
 nolimit : s₀.heap.NoLimit
theorem TE.glob (hk : EnvOk env) (G : Glo s₀ mg mb) {x : Str} {pos : Pos} {v : V} {val : Value} {Q : V → Loc → Hp → Prop} (hl : env.kindOf x = some .globalImplicit) (hv : mg x = some val)
  (hr : ∀ Z, Rv prog w Z v val) (h : Q v m H) (hd : (x == ("__debug__" : Str)) = false := by decide) : TE prog w s₀ A env (.Name x pos) Q m H := .mk fun B Z s R => by
 refine Calls.Name_function_global hk.kind hl ?_ hd
 exact Calls.loadGlobal_global (hk.globals ▸ G.g.keeps R.r.kept0) hv ⟨v, m, H, Z, Mem.Le.refl _, R, hr Z, h⟩
theorem TE.boot (hk : EnvOk env) (G : Glo s₀ mg mb) {x : Str} {pos : Pos} {val : Value} {Q : V → Loc → Hp → Prop} (hl : env.kindOf x = some .globalImplicit) (hg : mg x = none)
  (hb : bootBuiltins x = some val) (h : Q (.raw val) m H) (hn : x ≠ "__name__" := by decide) (hd : (x == ("__debug__" : Str)) = false := by decide) : TE prog w s₀ A env (.Name x pos) Q m H := .mk fun B Z s R => by
 refine Calls.Name_function_global hk.kind hl ?_ hd
 exact Calls.loadGlobal_builtin (hk.globals ▸ G.g.keeps R.r.kept0) hg (hk.builtins ▸ G.b.keeps R.r.kept0) ((G.boot x hn).trans hb) ⟨_, m, H, Z, Mem.Le.refl _, R, .raw val, h⟩

/-! stores -/
theorem store_local (hk : EnvOk env) {x : Str} {v : V} {val : Value} (hl : env.kindOf x = some .local) (hv : Rv prog w Z v val) {Q : Unit → Loc → Hp → Prop} (h : Q () (m.put x v) H) (R : RepF prog w s₀ fs B Z env m H s) :
  wpAny (model prog w) A (storeName env x val) (PF prog w s₀ fs B Z env Q) NoE s := by
 walk_at "prog,w,s₀,s,fs,B,Z,H,env,m,A,x,v,val,Q|hk,hl,hv,h,R"
 have xq := R.f.ns
 walk_at "xq,mr|xq"
 obtain ⟨hn, hm⟩ := xq
 refine wpAny_storeName_local hl hn (fun h' hn' hs => ⟨_, H, Z, Mem.Le.refl _, ⟨?_, ?_⟩, h⟩) (by rw [hk.kind]; rfl)
 ·exact {
   kb := fun a o e => let ⟨o', g, q⟩ := R.r.kb a o e; ⟨o', (hs.2 a (fun hh => by rw [hh, R.f.lb] at e; (first | obtain ⟨_, rfl⟩ := e.inv | cases e))).trans g, q⟩
   fr := fun L e => by
    obtain ⟨x, y, o', es, n, g, d⟩ := R.r.fr L e
    walk_at "o',es,n|g,d"
    refine ⟨x, y, ?_⟩
    by_cases hL : L = env.locals
    ·subst hL
     obtain ⟨o2, es2, ep2, g2, d2, _⟩ := hn'
     exact ⟨o2, es2, ep2, g2, d2⟩
    ·exact ⟨o', es, n, (hs.2 L hL).trans g, d⟩
   kz := fun a o e => (hs.2 a (fun hh => by rw [hh, R.f.lz] at e; (first | obtain ⟨_, rfl⟩ := e.inv | cases e))).trans (R.r.kz a o e)
   dj := R.r.dj
   own := fun a o e => let ⟨x, y, obj, z, u⟩ := R.r.own a o e; ⟨x, y, obj, (hs.2 a (fun hh => by rw [hh, R.f.lh] at e; (first | obtain ⟨_, rfl⟩ := e.inv | cases e))).trans z, u⟩
   z0 := R.r.z0
   gens := R.r.gens
   os := R.r.os
   lim := R.r.lim }
 ·exact {
   ns := ⟨_, hn', fun y v' hy hv' => by
    unfold Loc.put at hv'
    by_cases hxy : y = x
    ·rw [if_pos hxy] at hv'; (first | obtain ⟨_, rfl⟩ := hv'.inv | cases hv')
     exact ⟨val, by rw [if_pos hxy], hv⟩
    ·rw [if_neg hxy] at hv'
     obtain ⟨val', h1, h2⟩ := hm y v' hy hv'
     exact ⟨val', by rw [if_neg hxy]; exact h1, h2⟩⟩
   lb := R.f.lb
   lz := R.f.lz
   lh := R.f.lh
   cell := fun y hy => by
    have hput : ∀ v', m.put x v y = some v' → m y = some v' := fun v' e => by
     unfold Loc.put at e
     rw [if_neg (fun hh => by rw [hh, hl] at hy; (first | obtain ⟨_, rfl⟩ := hy.inv | cases hy))] at e
     exact e
    obtain ⟨c, a1, a8⟩ := R.f.cell y hy
    refine ⟨c, a1, ?_⟩
    rcases a8 with ⟨hlt, ov, a2, a3, a4, a5, a6⟩ | ⟨hn, o, hb, hq, a3⟩
    ·exact .inl ⟨hlt, ov, a2.sameBut hs (Nat.ne_of_gt hlt), fun v' e => a3 v' (hput v' e), a4, a5, a6⟩
    ·exact .inr ⟨hn, o, hb, hq, fun v' e => a3 v' (hput v' e)⟩
   apart := R.f.apart
   free := fun y v' hy e => R.f.free y v' hy (by
    unfold Loc.put at e
    rw [if_neg (fun hh => by rw [hh, hl] at hy; (first | obtain ⟨_, rfl⟩ := hy.inv | cases hy))] at e
    exact e) }
theorem store_cell (hk : EnvOk env) {x : Str} {v : V} {val : Value} {c₀ : Addr} (hl : env.kindOf x = some .cell) (hc₀ : env.cells.lookup x = some c₀) (hlt₀ : env.locals < c₀) (hv : Rv prog w Z v val) {Q : Unit → Loc → Hp → Prop} (h : Q () (m.put x v) H) (R : RepF prog w s₀ fs B Z env m H s) :
  wpAny (model prog w) A (storeName env x val) (PF prog w s₀ fs B Z env Q) NoE s := by
 walk_at "prog,w,s₀,s,fs,B,Z,H,env,m,A,x,v,val,c₀,Q|hk,hl,hc₀,hlt₀,hv,h,R"
 have xq := R.f.cell x hl
 walk_at "xq,c|xq"
 obtain ⟨a1, a8⟩ := xq
 have ec : c = c₀ := Option.some.inj (a1.symm.trans hc₀)
 subst ec
 obtain ⟨hlt, ov, a2, a3, a4, a5, a6⟩ := a8.resolve_right (fun h => h.1 hlt₀)
 walk_at "ov|a2,a3"
 have a7 : c ≠ env.locals := Nat.ne_of_gt hlt
 refine wpAny_storeName_cell hk.kind hl a1 a2 (fun h' hc' hs => ⟨_, H, Z, Mem.Le.refl _, ⟨?_, ?_⟩, h⟩)
 ·exact {
   kb := fun a o e => let ⟨o', g, q⟩ := R.r.kb a o e; ⟨o', (hs.2 a (fun hh => by rw [hh, a4] at e; (first | obtain ⟨_, rfl⟩ := e.inv | cases e))).trans g, q⟩
   fr := fun L e => by
    obtain ⟨x, y, o', es, n, g, d⟩ := R.r.fr L e
    refine ⟨x, y, o', es, n, (hs.2 L ?_).trans g, d⟩
    rintro rfl
    obtain ⟨oc, g2, d2⟩ := a2
    rw [g] at g2; (first | obtain ⟨_, rfl⟩ := g2.inv | cases g2); rw [d] at d2; (first | obtain ⟨_, rfl⟩ := d2.inv | cases d2)
   kz := fun a o e => (hs.2 a (fun hh => by rw [hh, a5] at e; (first | obtain ⟨_, rfl⟩ := e.inv | cases e))).trans (R.r.kz a o e)
   dj := R.r.dj
   own := fun a o e => let ⟨x, y, obj, z, u⟩ := R.r.own a o e; ⟨x, y, obj, (hs.2 a (fun hh => by rw [hh, a6] at e; (first | obtain ⟨_, rfl⟩ := e.inv | cases e))).trans z, u⟩
   z0 := R.r.z0
   gens := R.r.gens
   os := R.r.os
   lim := R.r.lim }
 ·exact {
   ns := by
    obtain ⟨mr, hn, hm⟩ := R.f.ns
    refine ⟨mr, hn.sameBut hs (Ne.symm a7), fun y v' hy hv' => hm y v' hy ?_⟩
    unfold Loc.put at hv'
    rw [if_neg (fun hh => by rw [hh, hl] at hy; (first | obtain ⟨_, rfl⟩ := hy.inv | cases hy))] at hv'
    exact hv'
   lb := R.f.lb
   lz := R.f.lz
   lh := R.f.lh
   cell := fun y hy => by
    by_cases hxy : y = x
    ·subst hxy
     exact ⟨c, a1, .inl ⟨hlt, some val, hc', fun v' e => ⟨val, rfl, by unfold Loc.put at e; rw [if_pos rfl] at e; (first | obtain ⟨_, rfl⟩ := e.inv | cases e); exact hv⟩, a4, a5, a6⟩⟩
    ·have hput : ∀ v', m.put x v y = some v' → m y = some v' := fun v' e => by unfold Loc.put at e; rw [if_neg hxy] at e; exact e
     obtain ⟨c', b1, b8⟩ := R.f.cell y hy
     refine ⟨c', b1, ?_⟩
     rcases b8 with ⟨hlt', ov', b2, b3, b4, b5, b6⟩ | ⟨hn, o, hb, hq, b3⟩
     ·exact .inl ⟨hlt', ov', b2.sameBut hs (fun hh => hxy (by subst hh; exact R.f.apart y x _ hy hl hlt b1 a1)), fun v' e => b3 v' (hput v' e), b4, b5, b6⟩
     ·exact .inr ⟨hn, o, hb, hq, fun v' e => b3 v' (hput v' e)⟩
   apart := R.f.apart
   free := fun y v' hy e => R.f.free y v' hy (by
    unfold Loc.put at e
    rw [if_neg (fun hh => by rw [hh, hl] at hy; (first | obtain ⟨_, rfl⟩ := hy.inv | cases hy))] at e
    exact e) }
noncomputable def ownCell (env : Env) (x : Str) : Bool := match env.cells.lookup x with
 | some c => decide (env.locals < c)
 | none => false
noncomputable def stored? (env : Env) (x : Str) : Bool := env.kindOf x == some .local || (env.kindOf x == some .cell && ownCell env x)
theorem store_any (hk : EnvOk env) {x : Str} {v : V} {val : Value} (hl : stored? env x = true) (hv : Rv prog w Z v val) {Q : Unit → Loc → Hp → Prop} (h : Q () (m.put x v) H) (R : RepF prog w s₀ fs B Z env m H s) :
  wpAny (model prog w) A (storeName env x val) (PF prog w s₀ fs B Z env Q) NoE s := by
 walk_at "prog,w,s₀,s,fs,B,Z,H,env,m,A,x,v,val,Q|hk,hl,hv,h,R"
 simp only [stored?, Bool.or_eq_true, Bool.and_eq_true, beq_iff_eq] at hl
 rcases hl with hl | ⟨hl, ho⟩
 ·exact store_local hk hl hv h R
 ·unfold ownCell at ho
  cases hc : env.cells.lookup x with
  | none => rw [hc] at ho; (first | obtain ⟨_, rfl⟩ := ho.inv | cases ho)
  | some c => rw [hc] at ho; exact store_cell hk hl hc (of_decide_eq_true ho) hv h R
theorem TA.name (hk : EnvOk env) {x : Str} {pos : Pos} {v : V} {Q : Loc → Hp → Prop} (hl : stored? env x = true) (h : Q (m.put x v) H) : TA prog w s₀ A env (.Name x pos) v Q m H := .mk fun B Z s val R hv => by
 show wpAny _ _ (do standAt pos; bindName env x val) _ _ _
 exact wpAny_bind (wpAny_standAt (wpAny_bindName (store_any hk hl hv h R)))
noncomputable abbrev idE : ∀ (e : Value) (s : Shared), NoE e s → NoE e s := fun _ _ x => x

/-! weaker ends -/
theorem TE.mono {e : Expr} {Q Q' : V → Loc → Hp → Prop} (h : TE prog w s₀ A env e Q m H) (hq : ∀ v m H, Q v m H → Q' v m H) : TE prog w s₀ A env e Q' m H := .mk fun B Z s R =>
 wpAny_mono (h.run B Z s R) (fun _ _ ⟨v, m1, H1, Z1, l1, R1, v1, h1⟩ => ⟨v, m1, H1, Z1, l1, R1, v1, hq _ _ _ h1⟩) idE
theorem PE.le {Q : V → Loc → Hp → Prop} (hZ : Mem.Le Z Z') {x : Value} (h : PE prog w s₀ fs B Z' env Q x s) : PE prog w s₀ fs B Z env Q x s :=
 let ⟨v, m1, H1, Z1, l1, R1, r1, q1⟩ := h; ⟨v, m1, H1, Z1, hZ.trans l1, R1, r1, q1⟩
theorem PF.le {α : Type} {Q : α → Loc → Hp → Prop} (hZ : Mem.Le Z Z') {x : α} (h : PF prog w s₀ fs B Z' env Q x s) : PF prog w s₀ fs B Z env Q x s :=
 let ⟨m1, H1, Z1, l1, R1, q1⟩ := h; ⟨m1, H1, Z1, hZ.trans l1, R1, q1⟩
theorem PS.le {Q : Fl → Loc → Hp → Prop} (hZ : Mem.Le Z Z') {x : Flow} (h : PS prog w s₀ fs B Z' env Q x s) : PS prog w s₀ fs B Z env Q x s :=
 let ⟨v, m1, H1, Z1, l1, R1, r1, q1⟩ := h; ⟨v, m1, H1, Z1, hZ.trans l1, R1, r1, q1⟩
theorem PV.le {Q : V → Hp → Prop} (hZ : Mem.Le Z Z') {x : Value} (h : PV prog w s₀ fs B Z' Q x s) : PV prog w s₀ fs B Z Q x s :=
 let ⟨v, H1, Z1, l1, R1, r1, q1⟩ := h; ⟨v, H1, Z1, hZ.trans l1, R1, r1, q1⟩
theorem RepF.opV (R : RepF prog w s₀ fs B Z env m H s) {t : Sem Value} {Q : V → Hp → Prop} {Q' : V → Loc → Hp → Prop} (h : wpAny (model prog w) A t (PV prog w s₀ fs (Bx B env s.heap) Z Q) NoE s) (hq : ∀ v H, Q v H → Q' v m H) :
  wpAny (model prog w) A t (PE prog w s₀ fs B Z env Q') NoE s :=
 wpAny_mono h (fun _ _ ⟨v, H1, Z1, l1, R1, v1, h1⟩ => ⟨v, m, H1, Z1, l1, R.back R1 l1, v1, hq _ _ h1⟩) idE
theorem RepF.opP {α : Type} (R : RepF prog w s₀ fs B Z env m H s) {t : Sem α} {Q : α → Hp → Prop} {Q' : α → Loc → Hp → Prop} (h : wpAny (model prog w) A t (PP prog w s₀ fs (Bx B env s.heap) Z Q) NoE s) (hq : ∀ v H, Q v H → Q' v m H) :
  wpAny (model prog w) A t (PF prog w s₀ fs B Z env Q') NoE s :=
 wpAny_mono h (fun _ _ ⟨H1, Z1, l1, R1, h1⟩ => ⟨m, H1, Z1, l1, R.back R1 l1, hq _ _ h1⟩) idE

/-! expressions -/
theorem TE.binop {l op r pos} {Q : V → Loc → Hp → Prop} (h : TE prog w s₀ A env l (fun a m1 H1 => TE prog w s₀ A env r (fun b m2 H2 => Op2 prog w s₀ A (binaryOp op) a b (fun v H3 => Q v m2 H3) H2) m1 H1) m H) :
  TE prog w s₀ A env (.BinOp l op r pos) Q m H := .mk fun B Z s R => by
 refine wpAny_BinOp (wpAny_mono (h.run B Z s R) ?_ idE)
 rintro x s1 ⟨a, m1, H1, Z1, l1, R1, v1, h1⟩
 refine wpAny_mono (h1.run B Z1 s1 R1) ?_ idE
 rintro y s2 ⟨b, m2, H2, Z2, l2, R2, v2, h2⟩
 exact wpAny_mono (R2.opV (h2.run _ Z2 s2 x y R2.enter (v1.mono l2) v2) fun _ _ q => q) (fun _ _ q => PE.le (l1.trans l2) q) idE
theorem TE.cmp {l op r pos} {Q : V → Loc → Hp → Prop} (h : TE prog w s₀ A env l (fun a m1 H1 => TE prog w s₀ A env r (fun b m2 H2 => Op2 prog w s₀ A (compareOp op) a b (fun v H3 => Q v m2 H3) H2) m1 H1) m H)
  (hm : behindInMarks op r = false := by with_unfolding_all rfl) : TE prog w s₀ A env (.Compare l [op] [r] pos) Q m H := .mk fun B Z s R => by
 refine wpAny_Compare1 (wpAny_mono (h.run B Z s R) ?_ idE) hm
 rintro x s1 ⟨a, m1, H1, Z1, l1, R1, v1, h1⟩
 refine wpAny_mono (h1.run B Z1 s1 R1) ?_ idE
 rintro y s2 ⟨b, m2, H2, Z2, l2, R2, v2, h2⟩
 exact wpAny_mono (R2.opV (h2.run _ Z2 s2 x y R2.enter (v1.mono l2) v2) fun _ _ q => q) (fun _ _ q => PE.le (l1.trans l2) q) idE
theorem TE.unary {op x pos} {Q : V → Loc → Hp → Prop} (h : TE prog w s₀ A env x (fun a m1 H1 => Op1 prog w s₀ A (unaryOp op) a (fun v H2 => Q v m1 H2) H1) m H) : TE prog w s₀ A env (.UnaryOp op x pos) Q m H := .mk fun B Z s R => by
 refine wpAny_UnaryOp (wpAny_mono (h.run B Z s R) ?_ idE)
 rintro x s1 ⟨a, m1, H1, Z1, l1, R1, v1, h1⟩
 exact wpAny_mono (R1.opV (h1.run _ Z1 s1 x R1.enter v1) fun _ _ q => q) (fun _ _ q => PE.le l1 q) idE
theorem TE.ifexp {test body orelse pos} {Q : V → Loc → Hp → Prop} (h : TB prog w s₀ A env test (fun b m1 H1 => if b = true then TE prog w s₀ A env body Q m1 H1 else TE prog w s₀ A env orelse Q m1 H1) m H) :
  TE prog w s₀ A env (.IfExp test body orelse pos) Q m H := .mk fun B Z s R => by
 refine wpAny_IfExp (wpAny_mono (h.run B Z s R) ?_ idE)
 rintro b s1 ⟨m1, H1, Z1, l1, R1, h1⟩
 cases b with
 | true => exact wpAny_mono (h1.run B Z1 s1 R1) (fun _ _ q => PE.le l1 q) idE
 | false => exact wpAny_mono (h1.run B Z1 s1 R1) (fun _ _ q => PE.le l1 q) idE
theorem TE.named {target value pos} {Q : V → Loc → Hp → Prop} (h : TE prog w s₀ A env value (fun v m1 H1 => TA prog w s₀ A env target v (fun m2 H2 => Q v m2 H2) m1 H1) m H) :
  TE prog w s₀ A env (.NamedExpr target value pos) Q m H := .mk fun B Z s R => by
 refine wpAny_NamedExpr (wpAny_mono (h.run B Z s R) ?_ idE)
 rintro x s1 ⟨a, m1, H1, Z1, l1, R1, v1, h1⟩
 refine wpAny_mono (h1.run B Z1 s1 x R1 v1) ?_ idE
 rintro _ s2 ⟨m2, H2, Z2, l2, R2, h2⟩
 exact ⟨a, m2, H2, Z2, l1.trans l2, R2, v1.mono l2, h2⟩
theorem TE.or2 {x y : Expr} {pos : Pos} {Q : V → Loc → Hp → Prop} (h : TE prog w s₀ A env x (fun a m1 H1 => OpB prog w s₀ A truthy a (fun b H2 => if b = true then Q a m1 H2 else TE prog w s₀ A env y Q m1 H2) H1) m H) :
  TE prog w s₀ A env (.BoolOp .Or [x, y] pos) Q m H := by
 walk_at "prog,w,s₀,H,env,m,A,x,y,pos,Q|h"
 refine .mk ?_
 intro B Z s R
 walk_at "B,Z,s|R"
 refine wpAny_Or2 (wpAny_mono (h.run B Z s R) ?_ idE)
 rintro x s1 ⟨a, m1, H1, Z1, l1, R1, v1, h1⟩
 refine wpAny_mono (R1.opP (Q' := fun b m2 H2 => m2 = m1 ∧ if b = true then Q a m1 H2 else TE prog w s₀ A env y Q m1 H2) (h1.run _ Z1 s1 x R1.enter v1) fun _ _ q => ⟨rfl, q⟩) ?_ idE
 rintro b s2 ⟨m2, H2, Z2, l2, R2, rfl, h2⟩
 cases b with
 | true => exact ⟨a, m2, H2, Z2, l1.trans l2, R2, v1.mono l2, h2⟩
 | false => exact wpAny_mono (h2.run B Z2 s2 R2) (fun _ _ q => PE.le (l1.trans l2) q) idE
theorem TE.sub {value slice pos} {Q : V → Loc → Hp → Prop} (h : TE prog w s₀ A env value (fun a m1 H1 => TE prog w s₀ A env slice (fun b m2 H2 => Op2 prog w s₀ A (subscriptTail value slice) a b (fun v H3 => Q v m2 H3) H2) m1 H1) m H) :
  TE prog w s₀ A env (.Subscript value slice pos) Q m H := by
 walk_at "prog,w,s₀,H,env,m,A,value,slice,pos,Q|h"
 refine .mk ?_
 intro B Z s R
 walk_at "B,Z,s|R"
 refine Subscript_ (wpAny_mono (h.run B Z s R) ?_ idE)
 rintro x s1 ⟨a, m1, H1, Z1, l1, R1, v1, h1⟩
 refine wpAny_mono (h1.run B Z1 s1 R1) ?_ idE
 rintro y s2 ⟨b, m2, H2, Z2, l2, R2, v2, h2⟩
 exact wpAny_mono (R2.opV (h2.run _ Z2 s2 x y R2.enter (v1.mono l2) v2) fun _ _ q => q) (fun _ _ q => PE.le (l1.trans l2) q) idE
theorem TE.attr {value : Expr} {attr : Str} {pos : Pos} {Q : V → Loc → Hp → Prop} (h : TE prog w s₀ A env value (fun a m1 H1 => Op1 prog w s₀ A (fun o => getAttr o attr true) a (fun v H2 => Q v m1 H2) H1) m H)
  (he : eval (.Attribute value attr pos) env = (do
   let o ← eval value env
   standAt pos.atName
   let r ← holding [o] (getAttr o attr true)
   letTemporaryGo value o r
   pure r) := by rfl) : TE prog w s₀ A env (.Attribute value attr pos) Q m H := .mk fun B Z s R => by
 refine Attribute_any_ (wpAny_mono (h.run B Z s R) ?_ idE) he
 rintro x s1 ⟨a, m1, H1, Z1, l1, R1, v1, h1⟩
 exact wpAny_mono (R1.opV (h1.run _ Z1 s1 x R1.enter v1) fun _ _ q => q) (fun _ _ q => PE.le l1 q) idE

/-! several -/
inductive PL (prog : Program) (w : World) (s₀ : Shared) (fs : List Addr) (B Z : Mem) (env : Env) (Q : List V → Loc → Hp → Prop) (xs : List Value) (s' : Shared) : Prop
 | mk (vs : List V) (m' : Loc) (H' : Hp) (Z' : Mem) (l : Mem.Le Z Z') (R : RepF prog w s₀ fs B Z' env m' H' s') (r : Rvs prog w Z' vs xs) (q : Q vs m' H') : PL prog w s₀ fs B Z env Q xs s'
structure TL (prog : Program) (w : World) (s₀ : Shared) (A : Around) (env : Env) (pos : Pos) (es : List Expr) (Q : List V → Loc → Hp → Prop) (m : Loc) (H : Hp) : Prop where
 run : ∀ B Z s, RepF prog w s₀ (frs A) B Z env m H s → wpAny (model prog w) A (spliced (backTo pos (starEach es env))) (PL prog w s₀ (frs A) B Z env Q) NoE s
theorem TL.nil {pos : Pos} {Q : List V → Loc → Hp → Prop} (h : Q [] m H) : TL prog w s₀ A env pos [] Q m H := .mk fun B Z s R => wpAny_items_nil ⟨[], m, H, Z, Mem.Le.refl _, R, .nil, h⟩
theorem TL.cons {pos : Pos} {e : Expr} {es : List Expr} {Q : List V → Loc → Hp → Prop} (h : TE prog w s₀ A env e (fun v m1 H1 => TL prog w s₀ A env pos es (fun vs m2 H2 => Q (v :: vs) m2 H2) m1 H1) m H)
  (he : starEach (e :: es) env = (false, eval e env) :: starEach es env := by rfl) : TL prog w s₀ A env pos (e :: es) Q m H := .mk fun B Z s R => by
 refine wpAny_items_cons (wpAny_mono (h.run B Z s R) ?_ idE) he
 rintro x s1 ⟨a, m1, H1, Z1, l1, R1, v1, h1⟩
 refine wpAny_mono (h1.run B Z1 s1 R1) ?_ idE
 rintro xs s2 ⟨vs, m2, H2, Z2, l2, R2, v2, h2⟩
 exact ⟨a :: vs, m2, H2, Z2, l1.trans l2, R2, .cons _ _ _ _ (v1.mono l2) v2, h2⟩
theorem Rvs.length {vs : List V} {xs : List Value} : Rvs prog w Z vs xs → vs.length = xs.length
 | .nil => rfl
 | .cons _ _ _ _ _ r => congrArg (· + 1) r.length
theorem RepF.pushZ (R : RepF prog w s₀ fs B Z env m H s) (obj : Obj) (hf : obj.isFreed = false) : Mem.Le Z (Z.put s.heap.objs.size obj) ∧ RepF prog w s₀ fs B (Z.put s.heap.objs.size obj) env m H { s with heap := s.heap.push obj } := by
 have hz := (R.r.fresh (get?_size s.heap)).2.1
 have l := Mem.le_put hz obj
 exact ⟨l, R.back (R.enter.allocZ (t := s.toks) (get?_size s.heap) (fun _ _ e => Heap.get?_push_of_some _ e) (Heap.get?_push_size _ hf)) l⟩
theorem RepF.pushH (R : RepF prog w s₀ fs B Z env m H s) (obj : Obj) (hf : obj.isFreed = false) {o : O} (ho : OIs prog w Z o obj) : RepF prog w s₀ fs B Z env m (H.put s.heap.objs.size o) { s with heap := s.heap.push obj } :=
 R.back (R.enter.alloc (t := s.toks) (get?_size s.heap) (fun _ _ e => Heap.get?_push_of_some _ e) (Heap.get?_push_size _ hf) ho R.r.nomods) (Mem.Le.refl _)
theorem TE.tuple {elts : List Expr} {k : Nat} {pos : Pos} {Q : V → Loc → Hp → Prop} (h : TL prog w s₀ A env pos elts (fun vs m1 H1 => vs.length ≤ sizeLine ∧ Q (.tup vs) m1 H1) m H) :
  TE prog w s₀ A env (.Tuple elts k pos) Q m H := .mk fun B Z s R => by
 refine wpAny_Tuple (wpAny_mono (h.run B Z s R) ?_ idE)
 rintro xs s1 ⟨vs, m1, H1, Z1, l1, R1, v1, h1, h2⟩
 refine ⟨v1.length ▸ h1, ?_⟩
 have := R1.pushZ { cls := .type "tuple", data := .seq xs.toArray } rfl
 exact ⟨.tup vs, m1, H1, _, l1.trans this.1, this.2, .tup _ _ _ xs (Mem.put_self ..) ⟨0, rfl⟩ (v1.mono this.1), h2⟩
theorem TE.listZ {elts : List Expr} {pos : Pos} {Q : V → Loc → Hp → Prop} (h : TL prog w s₀ A env pos elts (fun vs m1 H1 => vs.length ≤ sizeLine ∧ Q (.lst vs) m1 H1) m H) :
  TE prog w s₀ A env (.List elts pos) Q m H := .mk fun B Z s R => by
 refine wpAny_List (wpAny_mono (h.run B Z s R) ?_ idE)
 rintro xs s1 ⟨vs, m1, H1, Z1, l1, R1, v1, h1, h2⟩
 refine ⟨v1.length ▸ h1, ?_⟩
 have := R1.pushZ { cls := .type "list", data := .seq xs.toArray } rfl
 exact ⟨.lst vs, m1, H1, _, l1.trans this.1, this.2, .lst _ _ _ xs (Mem.put_self ..) ⟨0, rfl⟩ (v1.mono this.1), h2⟩
theorem TE.list {elts : List Expr} {pos : Pos} {Q : V → Loc → Hp → Prop} (h : TL prog w s₀ A env pos elts (fun vs m1 H1 => vs.length ≤ sizeLine ∧ ∀ a, H1 a = none → Q (.ref a) m1 (H1.put a (.list vs))) m H) :
  TE prog w s₀ A env (.List elts pos) Q m H := .mk fun B Z s R => by
 refine wpAny_List (wpAny_mono (h.run B Z s R) ?_ idE)
 rintro xs s1 ⟨vs, m1, H1, Z1, l1, R1, v1, h1, h2⟩
 refine ⟨v1.length ▸ h1, ?_⟩
 have := R1.pushH { cls := .type "list", data := .seq xs.toArray } rfl (o := .list vs) ⟨xs, ⟨0, rfl⟩, v1⟩
 exact ⟨.ref _, m1, _, Z1, l1, this, .ref _, h2 _ (R1.r.fresh (get?_size _)).2.2⟩
theorem TE.dict0 {pos : Pos} {Q : V → Loc → Hp → Prop} (h : ∀ a, H a = none → Q (.ref a) m (H.put a (.dict []))) : TE prog w s₀ A env (.Dict [] [] pos) Q m H := .mk fun B Z s R => by
 refine wpAny_Dict_empty ?_
 have := R.pushH { cls := .type "dict", data := .dict #[] } rfl (o := .dict []) ⟨[], ⟨#[], 0, ⟨rfl, rfl, rfl⟩, rfl, fun _ h => by simp at h, .nil, .nil⟩, .nil⟩
 exact ⟨.ref _, m, _, Z, Mem.Le.refl _, this, .ref _, h _ (R.r.fresh (get?_size _)).2.2⟩

/-! tests -/
theorem TB.cmp {l op r pos} {Q : Bool → Loc → Hp → Prop} (h : TE prog w s₀ A env l (fun a m1 H1 => TE prog w s₀ A env r (fun b m2 H2 => Op2 prog w s₀ A (compareOp op) a b (fun v H3 => OpB prog w s₀ A truthy v (fun t H4 => Q t m2 H4) H3) H2) m1 H1) m H)
  (hm : behindInMarks op r = false := by with_unfolding_all rfl) : TB prog w s₀ A env (.Compare l [op] [r] pos) Q m H := by
 walk_at "prog,w,s₀,H,env,m,A,l,op,r,pos,Q|h,hm"
 refine .mk ?_
 intro B Z s R
 walk_at "B,Z,s|R"
 refine wpAny_isTrue_Compare1 (wpAny_mono (h.run B Z s R) ?_ idE) hm
 rintro x s1 ⟨a, m1, H1, Z1, l1, R1, v1, h1⟩
 refine wpAny_mono (h1.run B Z1 s1 R1) ?_ idE
 rintro y s2 ⟨b, m2, H2, Z2, l2, R2, v2, h2⟩
 refine wpAny_mono (R2.opV (Q' := fun v m3 H3 => m3 = m2 ∧ OpB prog w s₀ A truthy v (fun t H4 => Q t m2 H4) H3) (h2.run _ Z2 s2 x y R2.enter (v1.mono l2) v2) fun _ _ q => ⟨rfl, q⟩) ?_ idE
 rintro z s3 ⟨v, m3, H3, Z3, l3, R3, v3, rfl, h3⟩
 exact wpAny_mono (R3.opP (h3.run _ Z3 s3 z R3.enter v3) fun _ _ q => q) (fun _ _ q => PF.le ((l1.trans l2).trans l3) q) idE
theorem TB.val {e : Expr} {Q : Bool → Loc → Hp → Prop} (h : TE prog w s₀ A env e (fun v m1 H1 => OpB prog w s₀ A truthy v (fun t H2 => Q t m1 H2) H1) m H)
  (he : ∀ whole, isTrue e env whole = (do let v ← whole; standAt e.pos; holding [v] (truthy v)) := by intro; rfl) : TB prog w s₀ A env e Q m H := .mk fun B Z s R => by
 refine wpAny_isTrue_value (wpAny_mono (h.run B Z s R) ?_ idE) (he _)
 rintro x s1 ⟨a, m1, H1, Z1, l1, R1, v1, h1⟩
 exact wpAny_mono (R1.opP (h1.run _ Z1 s1 x R1.enter v1) fun _ _ q => q) (fun _ _ q => PF.le l1 q) idE
theorem TB.not {x pos} {Q : Bool → Loc → Hp → Prop} (h : TB prog w s₀ A env x (fun b m1 H1 => Q (!b) m1 H1) m H) : TB prog w s₀ A env (.UnaryOp .Not x pos) Q m H := .mk fun B Z s R =>
 wpAny_isTrue_Not (wpAny_mono (h.run B Z s R) (fun _ _ ⟨m1, H1, Z1, l1, R1, h1⟩ => ⟨m1, H1, Z1, l1, R1, h1⟩) idE)
structure TAll (prog : Program) (w : World) (s₀ : Shared) (A : Around) (env : Env) (op : BoolOp) (es : List Expr) (Q : Bool → Loc → Hp → Prop) (m : Loc) (H : Hp) : Prop where
 run : ∀ B Z s, RepF prog w s₀ (frs A) B Z env m H s → wpAny (model prog w) A (allTrue op es env) (PF prog w s₀ (frs A) B Z env Q) NoE s
theorem TB.bool {op vs pos} {Q : Bool → Loc → Hp → Prop} (h : TAll prog w s₀ A env op vs Q m H) : TB prog w s₀ A env (.BoolOp op vs pos) Q m H := .mk fun B Z s R => wpAny_isTrue_BoolOp (h.run B Z s R)
theorem TAll.and_nil {Q : Bool → Loc → Hp → Prop} (h : Q true m H) : TAll prog w s₀ A env .And [] Q m H := .mk fun B Z s R => wpAny_allTrue_And_nil ⟨m, H, Z, Mem.Le.refl _, R, h⟩
theorem TAll.or_nil {Q : Bool → Loc → Hp → Prop} (h : Q false m H) : TAll prog w s₀ A env .Or [] Q m H := .mk fun B Z s R => wpAny_allTrue_Or_nil ⟨m, H, Z, Mem.Le.refl _, R, h⟩
theorem TAll.and_cons {x : Expr} {rest : List Expr} {Q : Bool → Loc → Hp → Prop} (h : TB prog w s₀ A env x (fun b m1 H1 => if b = true then TAll prog w s₀ A env .And rest Q m1 H1 else Q false m1 H1) m H) :
  TAll prog w s₀ A env .And (x :: rest) Q m H := .mk fun B Z s R => by
 refine wpAny_allTrue_And_cons (wpAny_mono (h.run B Z s R) ?_ idE)
 rintro b s1 ⟨m1, H1, Z1, l1, R1, h1⟩
 cases b with
 | true => exact wpAny_mono (h1.run B Z1 s1 R1) (fun _ _ q => PF.le l1 q) idE
 | false => exact ⟨m1, H1, Z1, l1, R1, h1⟩
theorem TAll.or_cons {x : Expr} {rest : List Expr} {Q : Bool → Loc → Hp → Prop} (h : TB prog w s₀ A env x (fun b m1 H1 => if b = true then Q true m1 H1 else TAll prog w s₀ A env .Or rest Q m1 H1) m H) :
  TAll prog w s₀ A env .Or (x :: rest) Q m H := .mk fun B Z s R => by
 refine wpAny_allTrue_Or_cons (wpAny_mono (h.run B Z s R) ?_ idE)
 rintro b s1 ⟨m1, H1, Z1, l1, R1, h1⟩
 cases b with
 | true => exact ⟨m1, H1, Z1, l1, R1, h1⟩
 | false => exact wpAny_mono (h1.run B Z1 s1 R1) (fun _ _ q => PF.le l1 q) idE
theorem Rvs.get {vs : List V} {xs : List Value} (h : Rvs prog w Z vs xs) : ∀ {i : Nat} {v : V} {x : Value}, vs[i]? = some v → xs[i]? = some x → Rv prog w Z v x := by
 induction vs generalizing xs with
 | nil => intro i v x e; simp at e
 | cons a vs ih =>
  cases h with
  | cons _ y _ ys h r =>
   intro i v x e f
   cases i with
   | zero => simp at e f; subst e f; exact h
   | succ i => simp at e f; exact ih r e f
theorem Rvs.at {vs : List V} {xs : List Value} (h : Rvs prog w Z vs xs) {i : Nat} {v : V} (e : vs[i]? = some v) : ∃ x, xs[i]? = some x ∧ Rv prog w Z v x := by
 have hl := h.length
 obtain ⟨hi, _⟩ := List.getElem?_eq_some_iff.mp e
 have hi' : i < xs.length := by rw [← hl]; exact hi
 have : xs[i]? = some xs[i] := List.getElem?_eq_getElem hi'
 exact ⟨_, this, h.get e this⟩
theorem Rks.get {vs : List (Int × V)} {xs : List (Int × Value)} (h : Rks prog w Z vs xs) : ∀ {i : Nat} {k : Int} {v : V} {k' : Int} {x : Value}, vs[i]? = some (k, v) → xs[i]? = some (k', x) → k' = k ∧ Rv prog w Z v x := by
 induction vs generalizing xs with
 | nil => intro i k v k' x e; simp at e
 | cons a vs ih =>
  cases h with
  | cons kk vv y _ ys h r =>
   intro i k v k' x e f
   cases i with
   | zero => simp at e f; obtain ⟨rfl, rfl⟩ := e; obtain ⟨rfl, rfl⟩ := f; exact ⟨rfl, h⟩
   | succ i => simp at e f; exact ih r e f
theorem Rks.length {vs : List (Int × V)} {xs : List (Int × Value)} : Rks prog w Z vs xs → vs.length = xs.length
 | .nil => rfl
 | .cons _ _ _ _ _ _ r => congrArg (· + 1) r.length

noncomputable def NoCD (o : Obj) : Prop := (∀ v, o.data ≠ .cell v) ∧ ∀ es n, o.data ≠ .dict es n
noncomputable def ItOk (prog : Program) (w : World) (A : Around) (Z : Mem) (I : Addr) (xs : List V) (tg : Expr) (h : Heap) : Prop :=
 ∃ fp P St, Walks prog w A I fp [I] xs.length P St ∧ (∀ b ∈ fp, b = I ∨ ∃ o, Z b = some o) ∧ (∀ i v x, xs[i]? = some v → P i x → Rv prog w Z v x) ∧ St 0 h ∧ (∀ i h, St i h → ∃ o, h.get? I = some o ∧ NoCD o) ∧
  ∀ i x s (Q : Unit → Shared → Prop), St (i + 1) s.heap → P i x → Q () s → wpAny (model prog w) A (letOwnedTupleGo tg (.ref I) x) Q NoE s
structure OpIt (prog : Program) (w : World) (s₀ : Shared) (A : Around) (tg : Expr) (v : V) (xs : List V) (H : Hp) : Prop where
 run : ∀ B Z s x, Rep prog w s₀ (frs A) B Z H s → Rv prog w Z v x → ∀ Q : Value → Shared → Prop,
  (∀ I h' t obj, s.heap.get? I = none → (∀ b o, s.heap.get? b = some o → h'.get? b = some o) → h'.get? I = some obj → ItOk prog w A Z I xs tg h' → Q (.ref I) { s with heap := h', toks := t }) → wpAny (model prog w) A (pyIter x) Q NoE s

theorem OpIt.lst {x : Str} {px : Pos} {xs : List V} (hh : A.handled = none) : OpIt prog w s₀ A (.Name x px) (.lst xs) xs H := by
 walk_at "prog,w,s₀,H,A,x,px,xs|hh"
 refine .mk ?_
 intro B Z s x R hv Q hQ
 walk_at "B,Z,s,x,Q|R,hv,hQ"
 cases hv with
 | lst a o _ items hz ho hr =>
  walk_at "a,o,items|hz,ho,hr"
  obtain ⟨hc, hd, n, he⟩ := ho.parts
  walk_at "n|he"
  have hl : s.heap.IsList a items.toArray := ⟨o, R.kz _ _ hz, hc, n, he⟩
  have hne : a ≠ s.heap.objs.size := Nat.ne_of_lt (Heap.lt_size (R.kz _ _ hz))
  refine wpAny_pyIter_list hl (hQ _ _ s.toks _ (get?_size _) (fun _ _ e => Heap.get?_push_of_some _ e) (Heap.get?_push_size _ rfl) ?_)
  refine ⟨_, _, _, by have W := Walks.list (prog := prog) (w := w) hh s.heap.objs.size a hne items.toArray; rw [show items.toArray.size = xs.length from by simp [hr.length]] at W; exact W, ?_, ?_, ?_, ?_, ?_⟩
  ·intro b hb; simp at hb; rcases hb with rfl | rfl
   ·exact .inl rfl
   ·exact .inr ⟨o, hz⟩
  ·intro i v x e f; exact hr.get e (by simpa using f)
  ·exact ⟨⟨_, Heap.get?_push_size _ rfl, rfl, rfl⟩, ⟨o, Heap.get?_push_of_some _ (R.kz _ _ hz), hc, n, he⟩⟩
  ·rintro i h ⟨⟨o, h1, _, h2⟩, _⟩; exact ⟨o, h1, ⟨fun v e => (by rw [h2] at e; (first | obtain ⟨_, rfl⟩ := e.inv | cases e)), fun es n e => (by rw [h2] at e; (first | obtain ⟨_, rfl⟩ := e.inv | cases e))⟩⟩
  ·intro i x s Q _ _ q; exact wpAny_pure q
theorem OpIt.lst2 {elts : List Expr} {x1 : Nat} {px : Pos} {xs : List V} (hh : A.handled = none) (ht : ∀ v ∈ xs, ∃ ys, v = .tup ys) : OpIt prog w s₀ A (.Tuple elts x1 px) (.lst xs) xs H := by
 walk_at "prog,w,s₀,H,A,elts,x1,px,xs|hh,ht"
 refine .mk ?_
 intro B Z s x R hv Q hQ
 walk_at "B,Z,s,x,Q|R,hv,hQ"
 cases hv with
 | lst a o _ items hz ho hr =>
  walk_at "a,o,items|hz,ho,hr"
  obtain ⟨hc, hd, n, he⟩ := ho.parts
  walk_at "n|he"
  have hl : s.heap.IsList a items.toArray := ⟨o, R.kz _ _ hz, hc, n, he⟩
  have hne : a ≠ s.heap.objs.size := Nat.ne_of_lt (Heap.lt_size (R.kz _ _ hz))
  refine wpAny_pyIter_list hl (hQ _ _ s.toks _ (get?_size _) (fun _ _ e => Heap.get?_push_of_some _ e) (Heap.get?_push_size _ rfl) ?_)
  refine ⟨_, _, _, by have W := Walks.list (prog := prog) (w := w) hh s.heap.objs.size a hne items.toArray; rw [show items.toArray.size = xs.length from by simp [hr.length]] at W; exact W, ?_, ?_, ?_, ?_, ?_⟩
  ·intro b hb; simp at hb; rcases hb with rfl | rfl
   ·exact .inl rfl
   ·exact .inr ⟨o, hz⟩
  ·intro i v x e f; exact hr.get e (by simpa using f)
  ·exact ⟨⟨_, Heap.get?_push_size _ rfl, rfl, rfl⟩, ⟨o, Heap.get?_push_of_some _ (R.kz _ _ hz), hc, n, he⟩⟩
  ·rintro i h ⟨⟨o, h1, _, h2⟩, _⟩; exact ⟨o, h1, ⟨fun v e => (by rw [h2] at e; (first | obtain ⟨_, rfl⟩ := e.inv | cases e)), fun es n e => (by rw [h2] at e; (first | obtain ⟨_, rfl⟩ := e.inv | cases e))⟩⟩
  ·intro i x s Q st px q
   walk_at "i,x,s,Q|st,px,q"
   have hi : i < items.length := by
    have : items[i]? = some x := by simpa using px
    exact (List.getElem?_eq_some_iff.mp this).1
   have hi' : i < xs.length := by rw [hr.length]; exact hi
   have hx : xs[i]? = some xs[i] := List.getElem?_eq_getElem hi'
   have hv := hr.get hx (by simpa using px)
   obtain ⟨ys, hy⟩ := ht _ (List.mem_of_getElem? hx)
   rw [hy] at hv
   cases hv with
   | tup T _ _ _ _ _ _ => exact wpAny_letOwnedTupleGo_listiter st.1 q
theorem OpIt.tup {x : Str} {px : Pos} {xs : List V} (hh : A.handled = none) : OpIt prog w s₀ A (.Name x px) (.tup xs) xs H := .mk fun B Z s x R hv Q hQ => by
 cases hv with
 | tup a o _ items hz ho hr =>
  obtain ⟨hc, hd, n, he⟩ := ho.parts
  have hl : s.heap.IsTuple a items.toArray := ⟨o, R.kz _ _ hz, hc, n, he⟩
  have hne : a ≠ s.heap.objs.size := Nat.ne_of_lt (Heap.lt_size (R.kz _ _ hz))
  refine wpAny_pyIter_tuple hl (hQ _ _ s.toks _ (get?_size _) (fun _ _ e => Heap.get?_push_of_some _ e) (Heap.get?_push_size _ rfl) ?_)
  refine ⟨_, _, _, by have W := Walks.tuple (prog := prog) (w := w) hh s.heap.objs.size a hne items.toArray; rw [show items.toArray.size = xs.length from by simp [hr.length]] at W; exact W, ?_, ?_, ?_, ?_, ?_⟩
  ·intro b hb; simp at hb; rcases hb with rfl | rfl
   ·exact .inl rfl
   ·exact .inr ⟨o, hz⟩
  ·intro i v x e f; exact hr.get e (by simpa using f)
  ·exact ⟨⟨_, Heap.get?_push_size _ rfl, rfl, rfl⟩, ⟨o, Heap.get?_push_of_some _ (R.kz _ _ hz), hc, n, he⟩⟩
  ·rintro i h ⟨⟨o, h1, _, h2⟩, _⟩; exact ⟨o, h1, ⟨fun v e => (by rw [h2] at e; (first | obtain ⟨_, rfl⟩ := e.inv | cases e)), fun es n e => (by rw [h2] at e; (first | obtain ⟨_, rfl⟩ := e.inv | cases e))⟩⟩
  ·intro i x s Q _ _ q; exact wpAny_pure q
theorem keys_get {kvs : List (Int × V)} {i : Nat} {v : V} (h : (kvs.map fun kv => V.int kv.1)[i]? = some v) : ∃ k x, kvs[i]? = some (k, x) ∧ v = .int k := by
 walk_at "kvs,i,v|h"
 rw [List.getElem?_map] at h
 cases e : kvs[i]? with
 | none => rw [e] at h; (first | obtain ⟨_, rfl⟩ := h.inv | cases h)
 | some kv => rw [e] at h; (first | obtain ⟨_, rfl⟩ := h.inv | cases h); exact ⟨kv.1, kv.2, rfl, rfl⟩
theorem dictAt_of {h : Heap} {a : Addr} {o : Obj} {kvr : List (Int × Value)} (hg : h.get? a = some o) (ho : o.IsDictOf (intKind prog w) kvr) : ∃ ep, h.DictAt (intKind prog w) a kvr ep := by
 walk_at "prog,w,h,a,o,kvr|hg,ho"
 obtain ⟨es, ep, h1, h2, h3⟩ := ho
 exact ⟨ep, o, es, hg, h1, h2, h3⟩
theorem isInt_of {k : Int} {x : Value} (h : (intKind prog w).is k x = true) : ∃ t, x = .int k t := Value.isInt_shape h
theorem OpIt.dct {x : Str} {px : Pos} {kvs : List (Int × V)} (hh : A.handled = none) : OpIt prog w s₀ A (.Name x px) (.dct kvs) (kvs.map fun kv => .int kv.1) H := by
 walk_at "prog,w,s₀,H,A,x,px,kvs|hh"
 refine .mk ?_
 intro B Z s x R hv Q hQ
 walk_at "B,Z,s,x,Q|R,hv,hQ"
 cases hv with
 | dct a o _ kvr hm hz ho hr =>
  walk_at "a,o,kvr|hm,hz,ho,hr"
  have xq := dictAt_of (R.kz _ _ hz) ho
  walk_at "xq,ep|xq"
  have hD := xq
  clear xq
  have hne : a ≠ s.heap.objs.size := Nat.ne_of_lt (Heap.lt_size (R.kz _ _ hz))
  refine wpAny_pyIter_dict (beq_eq_false_iff_ne.mpr hm) hD (hQ _ _ s.toks _ (get?_size _) (fun _ _ e => Heap.get?_push_of_some _ e) (Heap.get?_push_size _ rfl) ?_)
  refine ⟨_, _, _, by have W := Walks.dictKeys (prog := prog) (w := w) (knd := intKind prog w) hh s.heap.objs.size a hne kvr ep; rw [List.length_map, hr.length]; exact W, ?_, ?_, ?_, ?_, ?_⟩
  ·intro b hb; simp at hb; rcases hb with rfl | rfl
   ·exact .inl rfl
   ·exact .inr ⟨o, hz⟩
  ·rintro i v x e ⟨k, y, e1, e2⟩
   obtain ⟨k', x', e3, rfl⟩ := keys_get e
   obtain ⟨rfl, _⟩ := hr.get e3 e1
   obtain ⟨t, rfl⟩ := isInt_of e2
   exact .int _ _
  ·exact ⟨⟨_, Heap.get?_push_size _ rfl, rfl, rfl⟩, hD.push _⟩
  ·rintro i h ⟨⟨o, h1, _, h2⟩, _⟩; exact ⟨o, h1, ⟨fun v e => (by rw [h2] at e; (first | obtain ⟨_, rfl⟩ := e.inv | cases e)), fun es n e => (by rw [h2] at e; (first | obtain ⟨_, rfl⟩ := e.inv | cases e))⟩⟩
  ·intro i x s Q _ _ q; exact wpAny_pure q
theorem OpIt.vals {x : Str} {px : Pos} {kvs : List (Int × V)} (hh : A.handled = none) : OpIt prog w s₀ A (.Name x px) (.vals kvs) (kvs.map (·.2)) H := by
 walk_at "prog,w,s₀,H,A,x,px,kvs|hh"
 refine .mk ?_
 intro B Z s x R hv Q hQ
 walk_at "B,Z,s,x,Q|R,hv,hQ"
 cases hv with
 | vals e a oe o _ kvr he hc hd hm hz ho hr =>
  walk_at "e,a,oe,o,kvr|he,hc,hd,hm,hz,ho,hr"
  have xq := dictAt_of (R.kz _ _ hz) ho
  walk_at "xq,ep|xq"
  have hD := xq
  clear xq
  have hne : a ≠ s.heap.objs.size := Nat.ne_of_lt (Heap.lt_size (R.kz _ _ hz))
  refine wpAny_pyIter_values ⟨oe, R.kz _ _ he, hc, hd⟩ hD (hQ _ _ s.toks _ (get?_size _) (fun _ _ e => Heap.get?_push_of_some _ e) (Heap.get?_push_size _ rfl) ?_)
  refine ⟨_, _, _, by have W := Walks.dictValues (prog := prog) (w := w) (knd := intKind prog w) hh s.heap.objs.size a hne kvr ep; rw [List.length_map, hr.length]; exact W, ?_, ?_, ?_, ?_, ?_⟩
  ·intro b hb; simp at hb; rcases hb with rfl | rfl
   ·exact .inl rfl
   ·exact .inr ⟨o, hz⟩
  ·rintro i v x e ⟨k, e1⟩
   rw [List.getElem?_map] at e
   cases q : kvs[i]? with
   | none => rw [q] at e; (first | obtain ⟨_, rfl⟩ := e.inv | cases e)
   | some kv => rw [q] at e; (first | obtain ⟨_, rfl⟩ := e.inv | cases e); exact (hr.get q e1).2
  ·exact ⟨⟨_, Heap.get?_push_size _ rfl, rfl, rfl⟩, hD.push _⟩
  ·rintro i h ⟨⟨o, h1, _, h2⟩, _⟩; exact ⟨o, h1, ⟨fun v e => (by rw [h2] at e; (first | obtain ⟨_, rfl⟩ := e.inv | cases e)), fun es n e => (by rw [h2] at e; (first | obtain ⟨_, rfl⟩ := e.inv | cases e))⟩⟩
  ·intro i x s Q _ _ q; exact wpAny_pure q
theorem OpIt.rng {x : Str} {px : Pos} {a b : Int} (hh : A.handled = none) (hs : Builtin.Range.small a b 1 = true) :
  OpIt prog w s₀ A (.Name x px) (.rng a b 1) ((List.range (b - a).toNat).map fun (i : Nat) => V.int (a + i)) H := by
 walk_at "prog,w,s₀,H,A,x,px,a,b|hh,hs"
 refine .mk ?_
 intro B Z s x R hv Q hQ
 walk_at "B,Z,s,x,Q|R,hv,hQ"
 cases hv with
 | rng r _ _ _ t u v hz =>
  walk_at "r,t,u,v|hz"
  refine wpAny_pyIter_range (R.kz _ _ hz) hs (hQ _ _ s.toks _ (get?_size _) (fun _ _ e => Heap.get?_push_of_some _ e) (Heap.get?_push_size _ rfl) ?_)
  refine ⟨_, _, _, by have W := Walks.range (prog := prog) (w := w) hh s.heap.objs.size a 1 (b - a).toNat; rw [List.length_map, List.length_range]; exact W, ?_, ?_, ?_, ?_, ?_⟩
  ·intro b hb; simp at hb; exact .inl hb
  ·rintro i v x e xq
   walk_at "i,v,x|e,xq"
   walk_at "xq,t|xq"
   obtain rfl := xq
   rw [List.getElem?_map] at e
   cases q : (List.range (b - a).toNat)[i]? with
   | none => rw [q] at e; (first | obtain ⟨_, rfl⟩ := e.inv | cases e)
   | some j =>
    rw [q] at e; (first | obtain ⟨_, rfl⟩ := e.inv | cases e)
    obtain ⟨_, q⟩ := List.getElem?_eq_some_iff.mp q
    simp at q; subst q
    simp only [Int.mul_one]; exact .int _ _
  ·show IsRangeIter _ _ (a + (0 : Nat) * 1) (((b - a).toNat : Int) - (0 : Nat)) 1
   have : Builtin.Range.rangeSize a b 1 = ((b - a).toNat : Int) := by rw [rangeSize_one]; split <;> omega
   rw [this]
   simp
   exact Heap.get?_push_size _ rfl
  ·intro i h st; exact ⟨_, st, ⟨fun v e => (by (first | obtain ⟨_, rfl⟩ := e.inv | cases e)), fun es n e => (by (first | obtain ⟨_, rfl⟩ := e.inv | cases e))⟩⟩
  ·intro i x s Q _ _ q; exact wpAny_pure q
/-! sequences of statements -/
theorem TS.nil {Q : Fl → Loc → Hp → Prop} (h : Q .next m H) : TS prog w s₀ A env [] Q m H := .mk fun B Z s R => wpAny_execs_nil ⟨.next, m, H, Z, Mem.Le.refl _, R, .next, h⟩
noncomputable def seqQ (P : Loc → Hp → Prop) (Q : Fl → Loc → Hp → Prop) : Fl → Loc → Hp → Prop := fun f m H => match f with
 | .next => P m H
 | .brk => Q .brk m H
 | .cont => Q .cont m H
 | .ret v => Q (.ret v) m H
theorem TS.cons {st rest} {Q : Fl → Loc → Hp → Prop} (h : T1 prog w s₀ A env st (seqQ (TS prog w s₀ A env rest Q) Q) m H) : TS prog w s₀ A env (st :: rest) Q m H := .mk fun B Z s R => by
 refine wpAny_execs_cons (wpAny_mono (h.run B Z s R) ?_ idE)
 rintro f s1 ⟨g, m1, H1, Z1, l1, R1, v1, h1⟩
 cases v1 with
 | next => exact wpAny_mono (h1.run B Z1 s1 R1) (fun _ _ q => PS.le l1 q) idE
 | brk => exact ⟨_, m1, H1, Z1, l1, R1, .brk, h1⟩
 | cont => exact ⟨_, m1, H1, Z1, l1, R1, .cont, h1⟩
 | ret v x hx => exact ⟨_, m1, H1, Z1, l1, R1, .ret v x hx, h1⟩
theorem T1.mono {st : Stmt} {Q Q' : Fl → Loc → Hp → Prop} (h : T1 prog w s₀ A env st Q m H) (hq : ∀ v m H, Q v m H → Q' v m H) : T1 prog w s₀ A env st Q' m H := .mk fun B Z s R =>
 wpAny_mono (h.run B Z s R) (fun _ _ ⟨v, m1, H1, Z1, l1, R1, v1, h1⟩ => ⟨v, m1, H1, Z1, l1, R1, v1, hq _ _ _ h1⟩) idE

/-! assignments -/
theorem T1.assign_name (hk : EnvOk env) {x pos' value pos} {Q : Fl → Loc → Hp → Prop} (hl : stored? env x = true) (h : TE prog w s₀ A env value (fun v m1 H1 => Q .next (m1.put x v) H1) m H)
  (hs : swapsWith value (some (.Name x pos')) pos.line env = pure false := by rfl) : T1 prog w s₀ A env (.Assign [.Name x pos'] value pos) Q m H := .mk fun B Z s R => by
 refine wpAny_Assign_Name (wpAny_mono (h.run B Z s R) ?_ idE) hs
 rintro x s1 ⟨a, m1, H1, Z1, l1, R1, v1, h1⟩
 refine wpAny_mono (store_any (Q := fun _ m2 H2 => Q .next m2 H2) hk hl v1 h1 R1) ?_ idE
 rintro _ s2 ⟨m2, H2, Z2, l2, R2, h2⟩
 exact ⟨.next, m2, H2, Z2, l1.trans l2, R2, .next, h2⟩
theorem T1.assign_tuple {elts k tpos value pos} {Q : Fl → Loc → Hp → Prop} (h : TE prog w s₀ A env value (fun v m1 H1 => TA prog w s₀ A env (.Tuple elts k tpos) v (fun m2 H2 => Q .next m2 H2) m1 H1) m H)
  (hs : swapsWithSole [.Tuple elts k tpos] value pos.line env = pure false := by rfl) (hw : swappedStores [.Tuple elts k tpos] value env = pure none := by rfl) :
  T1 prog w s₀ A env (.Assign [.Tuple elts k tpos] value pos) Q m H := .mk fun B Z s R => by
 refine Assign_Tuple (wpAny_mono (h.run B Z s R) ?_ idE) hs hw
 rintro x s1 ⟨a, m1, H1, Z1, l1, R1, v1, h1⟩
 refine wpAny_mono (h1.run B Z1 s1 x R1 v1) ?_ idE
 rintro _ s2 ⟨m2, H2, Z2, l2, R2, h2⟩
 exact ⟨.next, m2, H2, Z2, l1.trans l2, R2, .next, h2⟩
theorem T1.assign_sub {o i pos' value pos} {Q : Fl → Loc → Hp → Prop}
  (h : TE prog w s₀ A env value (fun v m1 H1 => TE prog w s₀ A env o (fun ov m2 H2 => TE prog w s₀ A env i (fun iv m3 H3 => OpU prog w s₀ A setItem ov iv v (fun H4 => Q .next m3 H4) H3) m2 H2) m1 H1) m H)
  (hs : swapsWith value (some (.Subscript o i pos')) pos.line env = pure false := by rfl) : T1 prog w s₀ A env (.Assign [.Subscript o i pos'] value pos) Q m H := by
 walk_at "prog,w,s₀,H,env,m,A,o,i,pos',value,pos,Q|h,hs"
 refine .mk ?_
 intro B Z s R
 walk_at "B,Z,s|R"
 refine wpAny_Assign_Subscript (wpAny_mono (h.run B Z s R) ?_ idE) hs
 rintro x s1 ⟨a, m1, H1, Z1, l1, R1, v1, h1⟩
 walk_at "x,s1,a,m1,H1,Z1|l1,R1,v1,h1"
 refine wpAny_mono (h1.run B Z1 s1 R1) ?_ idE
 rintro y s2 ⟨b, m2, H2, Z2, l2, R2, v2, h2⟩
 refine wpAny_mono (h2.run B Z2 s2 R2) ?_ idE
 rintro z s3 ⟨c, m3, H3, Z3, l3, R3, v3, h3⟩
 refine wpAny_mono (R3.opP (Q' := fun _ m4 H4 => Q .next m4 H4) (h3.run _ Z3 s3 y z x R3.enter (v2.mono l3) v3 ((v1.mono l2).mono l3)) fun _ _ q => q) ?_ idE
 rintro _ s4 ⟨m4, H4, Z4, l4, R4, h4⟩
 exact ⟨.next, m4, H4, Z4, l1.trans (l2.trans (l3.trans l4)), R4, .next, h4⟩
theorem T1.assign_attr {o attr pos' value pos} {Q : Fl → Loc → Hp → Prop}
  (h : TE prog w s₀ A env value (fun v m1 H1 => TE prog w s₀ A env o (fun ov m2 H2 => OpU prog w s₀ A (fun a _ c => setAttr a attr c) ov .none v (fun H4 => Q .next m2 H4) H2) m1 H1) m H)
  (hs : swapsWith value (some (.Attribute o attr pos')) pos.line env = pure false := by rfl) : T1 prog w s₀ A env (.Assign [.Attribute o attr pos'] value pos) Q m H := by
 walk_at "prog,w,s₀,H,env,m,A,o,attr,pos',value,pos,Q|h,hs"
 refine .mk ?_
 intro B Z s R
 walk_at "B,Z,s|R"
 refine plainObj_wpAny_Assign_Attribute (wpAny_mono (h.run B Z s R) ?_ idE) hs
 rintro x s1 ⟨a, m1, H1, Z1, l1, R1, v1, h1⟩
 refine wpAny_mono (h1.run B Z1 s1 R1) ?_ idE
 rintro y s2 ⟨b, m2, H2, Z2, l2, R2, v2, h2⟩
 refine wpAny_mono (R2.opP (Q' := fun _ m4 H4 => Q .next m4 H4) (h2.run _ Z2 s2 y .none x R2.enter v2 .none (v1.mono l2)) fun _ _ q => q) ?_ idE
 rintro _ s4 ⟨m4, H4, Z4, l4, R4, h4⟩
 exact ⟨.next, m4, H4, Z4, l1.trans (l2.trans l4), R4, .next, h4⟩
theorem T1.assign_two {t₁ t₂ value pos} {Q : Fl → Loc → Hp → Prop}
  (h : TE prog w s₀ A env value (fun v m1 H1 => TA prog w s₀ A env t₁ v (fun m2 H2 => TA prog w s₀ A env t₂ v (fun m3 H3 => Q .next m3 H3) m2 H2) m1 H1) m H)
  (he : (assignEach [t₁, t₂] env).map (·.2) = [assign t₁ env, assign t₂ env] := by rfl) (hw : swappedStores [t₁, t₂] value env = pure none := by rfl) :
  T1 prog w s₀ A env (.Assign [t₁, t₂] value pos) Q m H := by
 walk_at "prog,w,s₀,H,env,m,A,t₁,t₂,value,pos,Q|h,he,hw"
 refine .mk ?_
 intro B Z s R
 walk_at "B,Z,s|R"
 refine wpAny_Assign_two (wpAny_mono (h.run B Z s R) ?_ idE) he hw
 rintro x s1 ⟨a, m1, H1, Z1, l1, R1, v1, h1⟩
 refine wpAny_mono (h1.run B Z1 s1 x R1 v1) ?_ idE
 rintro _ s2 ⟨m2, H2, Z2, l2, R2, h2⟩
 refine wpAny_mono (h2.run B Z2 s2 x R2 (v1.mono l2)) ?_ idE
 rintro _ s3 ⟨m3, H3, Z3, l3, R3, h3⟩
 exact ⟨.next, m3, H3, Z3, l1.trans (l2.trans l3), R3, .next, h3⟩
theorem wpAny_release' {M : Model} {l l' : List Value} {Q : Unit → Shared → Prop} {E : Value → Shared → Prop} (h : Q () s) : wpAny M A (release l l') Q E s := fun Γ p _ => by rw [Sem.wp_release]; exact h
theorem TA.sub {o i pos} {v : V} {Q : Loc → Hp → Prop} (h : TE prog w s₀ A env o (fun ov m2 H2 => TE prog w s₀ A env i (fun iv m3 H3 => OpU prog w s₀ A setItem ov iv v (fun H4 => Q m3 H4) H3) m2 H2) m H) :
  TA prog w s₀ A env (.Subscript o i pos) v Q m H := by
 walk_at "prog,w,s₀,H,env,m,A,o,i,pos,v,Q|h"
 refine .mk ?_
 intro B Z s x R hv
 walk_at "B,Z,s,x|R,hv"
 rw [assign_Subscript]
 refine wpAny_bind (wpAny_holding (wpAny_mono (h.run B Z s R) ?_ idE))
 rintro y s2 ⟨b, m2, H2, Z2, l2, R2, v2, h2⟩
 refine wpAny_bind (wpAny_holding (wpAny_mono (h2.run B Z2 s2 R2) ?_ idE))
 rintro z s3 ⟨c, m3, H3, Z3, l3, R3, v3, h3⟩
 refine wpAny_bind (wpAny_standAt (wpAny_bind (wpAny_holding (wpAny_mono (R3.opP (Q' := fun _ m4 H4 => Q m4 H4) (h3.run _ Z3 s3 y z x R3.enter (v2.mono l3) v3 ((hv.mono l2).mono l3)) fun _ _ q => q) ?_ idE))))
 rintro _ s4 ⟨m4, H4, Z4, l4, R4, h4⟩
 exact wpAny_release' ⟨m4, H4, Z4, l2.trans (l3.trans l4), R4, h4⟩
noncomputable def TAs (prog : Program) (w : World) (s₀ : Shared) (A : Around) (env : Env) : List Expr → List V → (Loc → Hp → Prop) → Loc → Hp → Prop
 | [], [], Q, m, H => Q m H
 | t :: ts, v :: vs, Q, m, H => TA prog w s₀ A env t v (fun m1 H1 => TAs prog w s₀ A env ts vs Q m1 H1) m H
 | _, _, _, _, _ => False
theorem TAs.go : ∀ {ts : List Expr} {vs : List V} {Q : Loc → Hp → Prop} {m : Loc} {H : Hp} {Z : Mem} {s : Shared} {xs : List Value}, TAs prog w s₀ A env ts vs Q m H → RepF prog w s₀ (frs A) B Z env m H s → Rvs prog w Z vs xs →
  wpAny (model prog w) A (assignInOrder (ts.map fun t => assign t env) xs) (PF prog w s₀ (frs A) B Z env fun _ => Q) NoE s := by
 walk_at "prog,w,s₀,B,env,A|"
 intro ts
 walk_at "ts|"
 induction ts with
 | nil =>
  intro vs Q m H Z s xs h R hv
  cases hv with
  | nil => exact wpAny_pure ⟨m, H, Z, Mem.Le.refl _, R, h⟩
  | cons => exact h.elim
 | cons t ts ih =>
  walk_at "t,ts|ih"
  intro vs Q m H Z s xs h R hv
  walk_at "vs,Q,m,H,Z,s,xs|h,R,hv"
  cases hv with
  | nil => exact h.elim
  | cons v x vs xs hv hr =>
   refine wpAny_bind (wpAny_holding (wpAny_mono (TA.run h B Z s x R hv) ?_ idE))
   rintro _ s1 ⟨m1, H1, Z1, l1, R1, h1⟩
   exact wpAny_mono (ih h1 R1 (hr.mono l1)) (fun _ _ q => PF.le l1 q) idE
theorem TA.tup {elts x1 pos} {vs : List V} {Q : Loc → Hp → Prop} (hh : A.handled = none) (hl : elts.length = vs.length) (h : TAs prog w s₀ A env elts vs Q m H)
  (he : (assignEach elts env).map (·.2) = elts.map (fun t => assign t env) := by rfl) (hstar : (assignEach elts env).findIdx? (·.1) = none := by rfl) : TA prog w s₀ A env (.Tuple elts x1 pos) (.tup vs) Q m H := by
 walk_at "prog,w,s₀,H,env,m,A,elts,x1,pos,vs,Q|hh,hl,h,he,hstar"
 refine .mk ?_
 intro B Z s x R hv
 walk_at "B,Z,s,x|R,hv"
 cases hv with
 | tup a o _ items hz ho hr =>
  walk_at "a,o,items|hz,ho,hr"
  obtain ⟨hc, hd, n, hdat⟩ := ho.parts
  walk_at "n|hdat"
  have hlen : (assignEach elts env).length = items.toArray.size := by
   have := congrArg List.length he
   simp only [List.length_map] at this
   rw [this, hl, hr.length]; simp
  refine wpAny_assign_Tuple hh ⟨o, R.r.kz _ _ hz, hc, n, hdat⟩ hlen hstar fun h' hs => ?_
  rw [he]
  have R' : RepF prog w s₀ (frs A) B Z env m H { s with heap := h' } := R.back (R.enter.keeps (t := s.toks) fun b o e => hs b o (Nat.ne_of_lt (Heap.lt_size e)) e) (Mem.Le.refl _)
  exact TAs.go h R' hr

/-! augmented assignments -/
theorem T1.aug_name (hk : EnvOk env) {x pos' op value pos} {v₀ : V} {Q : Fl → Loc → Hp → Prop} (hl : heldN env x = true) (hl' : stored? env x = true) (hv : m x = some v₀)
  (h : TE prog w s₀ A env value (fun v m1 H1 => Op2 prog w s₀ A (inplaceOp op) v₀ v (fun r H2 => Q .next (m1.put x r) H2) H1) m H) : T1 prog w s₀ A env (.AugAssign (.Name x pos') op value pos) Q m H := by
 walk_at "prog,w,s₀,H,env,m,A,x,pos',op,value,pos,v₀,Q|hk,hl,hl',hv,h"
 refine .mk ?_
 intro B Z s R
 walk_at "B,Z,s|R"
 refine wpAny_AugAssign_Name (wpAny_mono (load_held (Q := fun v m1 H1 => v = v₀ ∧ m1 = m ∧ H1 = H) hk hl hv ⟨rfl, rfl, rfl⟩ R) ?_ idE)
 rintro x s1 ⟨a, m1, H1, Z1, l1, R1, v1, rfl, rfl, rfl⟩
 walk_at "x,s1,a,m1,H1,Z1|l1,R1,v1,hv,R,h"
 refine wpAny_mono (h.run B Z1 s1 R1) ?_ idE
 rintro y s2 ⟨b, m2, H2, Z2, l2, R2, v2, h2⟩
 refine wpAny_mono (R2.opV (Q' := fun r m3 H3 => Q .next (m3.put _ r) H3) (h2.run _ Z2 s2 x y R2.enter (v1.mono l2) v2) fun _ _ q => q) ?_ idE
 rintro z s3 ⟨r, m3, H3, Z3, l3, R3, v3, h3⟩
 refine wpAny_mono (store_any (Q := fun _ m4 H4 => Q .next m4 H4) hk hl' v3 h3 R3) ?_ idE
 rintro _ s4 ⟨m4, H4, Z4, l4, R4, h4⟩
 exact ⟨.next, m4, H4, Z4, l1.trans (l2.trans (l3.trans l4)), R4, .next, h4⟩
theorem T1.aug_sub {o i value tpos pos op} {Q : Fl → Loc → Hp → Prop}
  (h : TE prog w s₀ A env o (fun ov m1 H1 => TE prog w s₀ A env i (fun iv m2 H2 => Op2 prog w s₀ A getItem ov iv (fun old H3 => TE prog w s₀ A env value (fun v m4 H4 => Op2 prog w s₀ A (inplaceOp op) old v (fun r H5 =>
   OpU prog w s₀ A setItem ov iv r (fun H6 => Q .next m4 H6) H5) H4) m2 H3) H2) m1 H1) m H)
  (hi : ∀ ov iv new, augStore i ov iv new = (do holding [new, ov, iv] (setItem ov iv new); release [new, ov, iv] []; pure .next) := by intros; rfl) :
  T1 prog w s₀ A env (.AugAssign (.Subscript o i tpos) op value pos) Q m H := by
 walk_at "prog,w,s₀,H,env,m,A,o,i,value,tpos,pos,op,Q|h,hi"
 refine .mk ?_
 intro B Z s R
 walk_at "B,Z,s|R"
 refine wpAny_AugAssign_SubscriptAny (wpAny_mono (h.run B Z s R) ?_ idE) hi
 rintro x s1 ⟨a, m1, H1, Z1, l1, R1, v1, h1⟩
 walk_at "x,s1,a,m1,H1,Z1|l1,R1,v1,h1"
 refine wpAny_mono (h1.run B Z1 s1 R1) ?_ idE
 rintro y s2 ⟨b, m2, H2, Z2, l2, R2, v2, h2⟩
 walk_at "y,s2,b,m2,H2,Z2|l2,R2,v2,h2"
 refine wpAny_mono (R2.opV (Q' := fun old m3 H3 => m3 = m2 ∧ TE prog w s₀ A env value (fun v m4 H4 => Op2 prog w s₀ A (inplaceOp op) old v (fun r H5 => OpU prog w s₀ A setItem a b r (fun H6 => Q .next m4 H6) H5) H4) m2 H3)
  (h2.run _ Z2 s2 x y R2.enter (v1.mono l2) v2) fun _ _ q => ⟨rfl, q⟩) ?_ idE
 rintro z s3 ⟨old, m3, H3, Z3, l3, R3, v3, rfl, h3⟩
 walk_at "z,s3,old,m3,H3,Z3|l3,R3,v3,R2,h2,h3"
 refine wpAny_mono (h3.run B Z3 s3 R3) ?_ idE
 rintro u s4 ⟨v, m4, H4, Z4, l4, R4, v4, h4⟩
 walk_at "u,s4,v,m4,H4,Z4|l4,R4,v4,h4"
 refine wpAny_mono (R4.opV (Q' := fun r m5 H5 => m5 = m4 ∧ OpU prog w s₀ A setItem a b r (fun H6 => Q .next m4 H6) H5) (h4.run _ Z4 s4 z u R4.enter (v3.mono l4) v4) fun _ _ q => ⟨rfl, q⟩) ?_ idE
 rintro r s5 ⟨rv, m5, H5, Z5, l5, R5, v5, rfl, h5⟩
 have lab := l3.trans (l4.trans l5)
 refine wpAny_mono (R5.opP (Q' := fun _ m6 H6 => Q .next m6 H6) (h5.run _ Z5 s5 x y r R5.enter ((v1.mono l2).mono lab) (v2.mono lab) v5) fun _ _ q => q) ?_ idE
 rintro _ s6 ⟨m6, H6, Z6, l6, R6, h6⟩
 exact ⟨.next, m6, H6, Z6, l1.trans (l2.trans (lab.trans l6)), R6, .next, h6⟩
theorem T1.aug_attr {o value attr tpos pos op} {Q : Fl → Loc → Hp → Prop}
  (h : TE prog w s₀ A env o (fun ov m1 H1 => Op1 prog w s₀ A (fun x => getAttr x attr true) ov (fun old H3 => TE prog w s₀ A env value (fun v m4 H4 => Op2 prog w s₀ A (inplaceOp op) old v (fun r H5 =>
   OpU prog w s₀ A (fun a _ c => setAttr a attr c) ov .none r (fun H6 => Q .next m4 H6) H5) H4) m1 H3) H1) m H) : T1 prog w s₀ A env (.AugAssign (.Attribute o attr tpos) op value pos) Q m H := by
 walk_at "prog,w,s₀,H,env,m,A,o,value,attr,tpos,pos,op,Q|h"
 refine .mk ?_
 intro B Z s R
 walk_at "B,Z,s|R"
 refine wpAny_AugAssign_AttributeAny (wpAny_mono (h.run B Z s R) ?_ idE)
 rintro x s1 ⟨a, m1, H1, Z1, l1, R1, v1, h1⟩
 walk_at "x,s1,a,m1,H1,Z1|l1,R1,v1,h1"
 refine wpAny_mono (R1.opV (Q' := fun old m3 H3 => m3 = m1 ∧ TE prog w s₀ A env value (fun v m4 H4 => Op2 prog w s₀ A (inplaceOp op) old v (fun r H5 => OpU prog w s₀ A (fun a _ c => setAttr a attr c) a .none r (fun H6 => Q .next m4 H6) H5) H4) m1 H3)
  (h1.run _ Z1 s1 x R1.enter v1) fun _ _ q => ⟨rfl, q⟩) ?_ idE
 rintro z s3 ⟨old, m3, H3, Z3, l3, R3, v3, rfl, h3⟩
 walk_at "z,s3,old,m3,H3,Z3|l3,R3,v3,R1,h1,h3"
 refine wpAny_mono (h3.run B Z3 s3 R3) ?_ idE
 rintro u s4 ⟨v, m4, H4, Z4, l4, R4, v4, h4⟩
 walk_at "u,s4,v,m4,H4,Z4|l4,R4,v4,h4"
 refine wpAny_mono (R4.opV (Q' := fun r m5 H5 => m5 = m4 ∧ OpU prog w s₀ A (fun a _ c => setAttr a attr c) a .none r (fun H6 => Q .next m4 H6) H5) (h4.run _ Z4 s4 z u R4.enter (v3.mono l4) v4) fun _ _ q => ⟨rfl, q⟩) ?_ idE
 rintro r s5 ⟨rv, m5, H5, Z5, l5, R5, v5, rfl, h5⟩
 have lab := l3.trans (l4.trans l5)
 refine wpAny_mono (R5.opP (Q' := fun _ m6 H6 => Q .next m6 H6) (h5.run _ Z5 s5 x .none r R5.enter (v1.mono lab) .none v5) fun _ _ q => q) ?_ idE
 rintro _ s6 ⟨m6, H6, Z6, l6, R6, h6⟩
 exact ⟨.next, m6, H6, Z6, l1.trans (lab.trans l6), R6, .next, h6⟩

/-! the rest -/
theorem T1.ifs {test body orelse pos} {Q : Fl → Loc → Hp → Prop} (h : TB prog w s₀ A env test (fun b m1 H1 => if b = true then TS prog w s₀ A env body Q m1 H1 else TS prog w s₀ A env orelse Q m1 H1) m H) :
  T1 prog w s₀ A env (.If test body orelse pos) Q m H := .mk fun B Z s R => by
 refine wpAny_If (wpAny_mono (h.run B Z s R) ?_ idE)
 rintro b s1 ⟨m1, H1, Z1, l1, R1, h1⟩
 cases b with
 | true => exact wpAny_mono (h1.run B Z1 s1 R1) (fun _ _ q => PS.le l1 q) idE
 | false => exact wpAny_mono (h1.run B Z1 s1 R1) (fun _ _ q => PS.le l1 q) idE
theorem T1.ret {e pos} {Q : Fl → Loc → Hp → Prop} (h : TE prog w s₀ A env e (fun v m1 H1 => Q (.ret v) m1 H1) m H) : T1 prog w s₀ A env (.Return (some e) pos) Q m H := .mk fun B Z s R => by
 refine wpAny_Return_some (wpAny_mono (h.run B Z s R) ?_ idE)
 rintro x s1 ⟨a, m1, H1, Z1, l1, R1, v1, h1⟩
 exact ⟨.ret a, m1, H1, Z1, l1, R1, .ret a x v1, h1⟩
theorem T1.expr (hk : EnvOk env) {e pos} {Q : Fl → Loc → Hp → Prop} (h : TE prog w s₀ A env e (fun v m1 H1 => Q .next m1 H1) m H) (hs : swapsWith e none pos.line env = pure false := by rfl) :
  T1 prog w s₀ A env (.Expr e pos) Q m H := .mk fun B Z s R => by
 refine wpAny_Expr_any (wpAny_mono (h.run B Z s R) ?_ idE) (by unfold interactive; rw [hk.kind]; rfl) hs
 rintro x s1 ⟨a, m1, H1, Z1, l1, R1, v1, h1⟩
 exact ⟨.next, m1, H1, Z1, l1, R1, .next, h1⟩
theorem T1.brk {pos} {Q : Fl → Loc → Hp → Prop} (h : Q .brk m H) : T1 prog w s₀ A env (.Break pos) Q m H := .mk fun B Z s R => wpAny_Break ⟨.brk, m, H, Z, Mem.Le.refl _, R, .brk, h⟩
theorem T1.cont {pos} {Q : Fl → Loc → Hp → Prop} (h : Q .cont m H) : T1 prog w s₀ A env (.Continue pos) Q m H := .mk fun B Z s R => wpAny_Continue ⟨.cont, m, H, Z, Mem.Le.refl _, R, .cont, h⟩
noncomputable def turnQ (P : Loc → Hp → Prop) (Q : Fl → Loc → Hp → Prop) : Fl → Loc → Hp → Prop := fun f m H => match f with
 | .next => P m H
 | .cont => P m H
 | .brk => Q .next m H
 | .ret v => Q (.ret v) m H
theorem T1.whiles {test body orelse pos} {Q : Fl → Loc → Hp → Prop} (I : Nat → Loc → Hp → Prop)
  (turn : ∀ n m H, I n m H → TB prog w s₀ A env test (fun b m1 H1 => if b = true then TS prog w s₀ A env body (turnQ (fun m2 H2 => ∃ k, k < n ∧ I k m2 H2) Q) m1 H1 else TS prog w s₀ A env orelse Q m1 H1) m H)
  (n : Nat) (h : I n m H) : T1 prog w s₀ A env (.While test body orelse pos) Q m H := by
 walk_at "prog,w,s₀,H,env,m,A,test,body,orelse,pos,Q,I,n|turn,h"
 refine .mk ?_
 intro B Z s R
 walk_at "B,Z,s|R"
 refine wpAny_While (codeAny_whileLoop (fun n s => ∃ m H Z1, Mem.Le Z Z1 ∧ RepF prog w s₀ (frs A) B Z1 env m H s ∧ I n m H) ?_ n ⟨m, H, Z, Mem.Le.refl _, R, h⟩)
 rintro n s xq
 walk_at "n,s|xq"
 walk_at "xq,m,H,Z1|xq"
 obtain ⟨l1, R1, hI⟩ := xq
 refine wpAny_mono ((turn n m H hI).run B Z1 s R1) ?_ (fun _ _ x => x.elim)
 rintro b s2 ⟨m2, H2, Z2, l2, R2, h2⟩
 walk_at "b,s2,m2,H2,Z2|l2,R2,h2"
 cases b with
 | false =>
  refine wpAny_mono (h2.run B Z2 s2 R2) ?_ (fun _ _ x => x.elim)
  rintro f s3 ⟨g, m3, H3, Z3, l3, R3, v3, h3⟩
  exact ⟨g, m3, H3, Z3, l1.trans (l2.trans l3), R3, v3, h3⟩
 | true =>
  refine wpAny_mono (h2.run B Z2 s2 R2) ?_ (fun _ _ x => x.elim)
  rintro f s3 ⟨g, m3, H3, Z3, l3, R3, v3, h3⟩
  walk_at "f,s3,g,m3,H3,Z3|l3,R3,v3,h3"
  have l := l1.trans (l2.trans l3)
  cases v3 with
  | next => obtain ⟨k, hk, hI⟩ := h3; exact ⟨k, hk, m3, H3, Z3, l, R3, hI⟩
  | cont => obtain ⟨k, hk, hI⟩ := h3; exact ⟨k, hk, m3, H3, Z3, l, R3, hI⟩
  | brk => exact ⟨.next, m3, H3, Z3, l, R3, .next, h3⟩
  | ret v x hx => exact ⟨.ret v, m3, H3, Z3, l, R3, .ret v x hx, h3⟩

/-! a for -/
theorem Rep.notfs (R : Rep prog w s₀ fs B Z H s) {I : Addr} (ha : s.heap.get? I = none) : I ∉ fs := fun e => (R.fr I e).2.2.ne ha rfl
theorem RepF.hold (R : RepF prog w s₀ fs B Z env m H s) {I : Addr} {obj : Obj} {h' : Heap} {t : Nat} (ha : s.heap.get? I = none) (hk : ∀ b o, s.heap.get? b = some o → h'.get? b = some o) (hn : h'.get? I = some obj) :
  RepF prog w s₀ fs (B.put I obj) Z env m H { s with heap := h', toks := t } := by
 walk_at "prog,w,s₀,s,fs,B,Z,H,env,m,I,obj,h',t|R,ha,hk,hn"
 have hf := R.r.fresh ha
 have ne : ∀ {a o}, s.heap.get? a = some o → a ≠ I := fun e h => by subst h; rw [ha] at e; (first | obtain ⟨_, rfl⟩ := e.inv | cases e)
 have hB : ∀ {a o}, B a = some o → B.put I obj a = some o := fun {a o} e => by
  obtain ⟨_, q, _⟩ := R.r.kb _ _ e
  unfold Mem.put; rw [if_neg (ne q)]; exact e
 refine ⟨?_, ?_⟩
 ·exact {
   kb := fun a o e => by
    unfold Mem.put at e
    by_cases h : a = I
    ·rw [if_pos h] at e; (first | obtain ⟨_, rfl⟩ := e.inv | cases e); subst h; exact ⟨_, hn, .refl _⟩
    ·rw [if_neg h] at e; exact R.r.kbk hk a o e
   fr := R.r.frk hk
   kz := fun a o e => hk _ _ (R.r.kz a o e)
   dj := fun a o e => by
    unfold Mem.put at e
    by_cases h : a = I
    ·subst h; exact hf.2.1
    ·rw [if_neg h] at e; exact R.r.dj a o e
   own := fun a o e => by
    obtain ⟨x, y, ob, z, u⟩ := R.r.own a o e
    exact ⟨by unfold Mem.put; rw [if_neg (ne z)]; exact x, y, ob, hk _ _ z, u⟩
   z0 := R.r.z0
   gens := R.r.gens
   os := R.r.os
   lim := R.r.lim }
 ·obtain ⟨mr, ⟨o, es, ep, ho, r⟩, hm⟩ := R.f.ns
  walk_at "mr,o,es,ep|hm,ho,r"
  exact {
   ns := ⟨mr, ⟨o, es, ep, hk _ _ ho, r⟩, hm⟩
   lb := by unfold Mem.put; rw [if_neg (ne ho)]; exact R.f.lb
   lz := R.f.lz
   lh := R.f.lh
   cell := fun x hx => by
    obtain ⟨c, a1, a8⟩ := R.f.cell x hx
    refine ⟨c, a1, ?_⟩
    rcases a8 with ⟨hlt, ov, ⟨oc, a2, a2'⟩, a3, a4, a5, a6⟩ | ⟨hn', o', hb, a3⟩
    ·exact .inl ⟨hlt, ov, ⟨oc, hk _ _ a2, a2'⟩, a3, by unfold Mem.put; rw [if_neg (ne a2)]; exact a4, a5, a6⟩
    ·exact .inr ⟨hn', o', hB hb, a3⟩
   apart := R.f.apart
   free := fun x v hx hv => let ⟨c, o, val, a1, a2, a3⟩ := R.f.free x v hx hv; ⟨c, o, val, a1, hB a2, a3⟩ }
theorem RepF.heldIt (R : RepF prog w s₀ fs (B.put I obj) Z env m H s) {h' : Heap} {t : Nat} (hfs : I ∉ fs) (hB : B I = none) (hc : ∀ v, obj.data ≠ .cell v) (hs : ∀ b o, b ≠ I → s.heap.get? b = some o → h'.get? b = some o) :
  RepF prog w s₀ fs B Z env m H { s with heap := h', toks := t } := by
 have hI : B.put I obj I = some obj := Mem.put_self ..
 have hZ : Z I = none := R.r.dj I obj hI
 have hB' : ∀ {a o}, B a = some o → B.put I obj a = some o ∧ a ≠ I := fun {a o} e => by
  have : a ≠ I := fun h => by subst h; rw [hB] at e; (first | obtain ⟨_, rfl⟩ := e.inv | cases e)
  exact ⟨by unfold Mem.put; rw [if_neg this]; exact e, this⟩
 have hN : ∀ {a}, B.put I obj a = none → B a = none ∧ a ≠ I := fun {a} e => by
  have : a ≠ I := fun h => by subst h; rw [hI] at e; (first | obtain ⟨_, rfl⟩ := e.inv | cases e)
  exact ⟨by unfold Mem.put at e; rw [if_neg this] at e; exact e, this⟩
 refine ⟨?_, ?_⟩
 ·exact {
   kb := fun a o e => let ⟨o', g, q⟩ := R.r.kb a o (hB' e).1; ⟨o', hs _ _ (hB' e).2 g, q⟩
   fr := fun L e => let ⟨x, y, o', es, n, g, d⟩ := R.r.fr L e; ⟨x, y, o', es, n, hs _ _ (fun h => hfs (h ▸ e)) g, d⟩
   kz := fun a o e => hs _ _ (fun h => by subst h; rw [hZ] at e; (first | obtain ⟨_, rfl⟩ := e.inv | cases e)) (R.r.kz a o e)
   dj := fun a o e => R.r.dj a o (hB' e).1
   own := fun a o e => by
    obtain ⟨x, y, ob, z, u⟩ := R.r.own a o e
    exact ⟨(hN x).1, y, ob, hs _ _ (hN x).2 z, u⟩
   z0 := R.r.z0
   gens := R.r.gens
   os := R.r.os
   lim := R.r.lim }
 ·obtain ⟨mr, ⟨o, es, ep, ho, r⟩, hm⟩ := R.f.ns
  exact {
   ns := ⟨mr, ⟨o, es, ep, hs _ _ (hN R.f.lb).2 ho, r⟩, hm⟩
   lb := (hN R.f.lb).1
   lz := R.f.lz
   lh := R.f.lh
   cell := fun x hx => by
    obtain ⟨c, a1, a8⟩ := R.f.cell x hx
    refine ⟨c, a1, ?_⟩
    rcases a8 with ⟨hlt, ov, ⟨oc, a2, a2'⟩, a3, a4, a5, a6⟩ | ⟨hn', o', hb, a3⟩
    ·exact .inl ⟨hlt, ov, ⟨oc, hs _ _ (hN a4).2 a2, a2'⟩, a3, (hN a4).1, a5, a6⟩
    ·by_cases hcI : c = I
     ·subst hcI
      rw [hI] at hb; (first | obtain ⟨_, rfl⟩ := hb.inv | cases hb)
      exact (hc _ a3.1.choose_spec).elim
     ·exact .inr ⟨hn', o', by unfold Mem.put at hb; rw [if_neg hcI] at hb; exact hb, a3⟩
   apart := R.f.apart
   free := fun x v hx hv => by
    obtain ⟨c, o, val, a1, a2, a3⟩ := R.f.free x v hx hv
    have : c ≠ I := fun h => by subst h; rw [hI] at a2; (first | obtain ⟨_, rfl⟩ := a2.inv | cases a2); exact hc _ a3.1
    exact ⟨c, o, val, a1, by unfold Mem.put at a2; rw [if_neg this] at a2; exact a2, a3⟩ }
section
variable {I : Addr} {obj : Obj}

theorem RepF.turnIt (R : RepF prog w s₀ fs (B.put I obj) Z env m H s) {obj' : Obj} {h' : Heap} {t : Nat} (hfs : I ∉ fs) (hB : B I = none) (hc : ∀ v, obj.data ≠ .cell v) (hs : ∀ b o, b ≠ I → s.heap.get? b = some o → h'.get? b = some o) (hn : h'.get? I = some obj') :
  RepF prog w s₀ fs (B.put I obj') Z env m H { s with heap := h', toks := t } := by
 walk_at "prog,w,s₀,s,fs,B,Z,H,env,m,I,obj,obj',h',t|R,hfs,hB,hc,hs,hn"
 have hI : B.put I obj I = some obj := Mem.put_self ..
 have hZ : Z I = none := R.r.dj I obj hI
 have R' := R.heldIt (t := t) hfs hB hc hs
 have hN : ∀ {a}, B.put I obj a = none → a ≠ I := fun {a} e h => by subst h; rw [hI] at e; (first | obtain ⟨_, rfl⟩ := e.inv | cases e)
 have up : ∀ {a o}, B a = some o → B.put I obj' a = some o := fun {a o} e => by
  walk_at "a,o|e"
  have : a ≠ I := fun h => by subst h; rw [hB] at e; (first | obtain ⟨_, rfl⟩ := e.inv | cases e)
  unfold Mem.put; rw [if_neg this]; exact e
 have un : ∀ {a}, B.put I obj a = none → B.put I obj' a = none := fun {a} e => by
  walk_at "a|e"
  have h := hN e
  unfold Mem.put at e ⊢; rw [if_neg h] at e ⊢; exact e
 refine ⟨?_, ?_⟩
 ·exact {
   kb := fun a o e => by
    walk_at "a,o|e"
    unfold Mem.put at e
    by_cases h : a = I
    ·rw [if_pos h] at e; (first | obtain ⟨_, rfl⟩ := e.inv | cases e); subst h; exact ⟨_, hn, .refl _⟩
    ·rw [if_neg h] at e; exact R'.r.kb a o e
   fr := R'.r.fr
   kz := R'.r.kz
   dj := fun a o e => by
    walk_at "a,o|e"
    unfold Mem.put at e
    by_cases h : a = I
    ·subst h; exact hZ
    ·rw [if_neg h] at e; exact R'.r.dj a o e
   own := fun a o e => let ⟨_, y⟩ := R'.r.own a o e; ⟨un (R.r.own a o e).1, y⟩
   z0 := R'.r.z0
   gens := R'.r.gens
   os := R'.r.os
   lim := R'.r.lim }
 ·exact {
   ns := R'.f.ns
   lb := un R.f.lb
   lz := R'.f.lz
   lh := R'.f.lh
   cell := fun x hx => by
    walk_at "x|hx"
    have xq := R'.f.cell x hx
    walk_at "xq,c|xq"
    obtain ⟨a1, a8⟩ := xq
    have xq := R.f.cell x hx
    walk_at "xq,c'|xq"
    obtain ⟨b1, b8⟩ := xq
    rw [a1] at b1; (first | obtain ⟨_, rfl⟩ := b1.inv | cases b1)
    refine ⟨c, a1, ?_⟩
    rcases a8 with ⟨hlt, ov, a2, a3, a4, a5⟩ | ⟨hn', o', hb, a3⟩
    ·rcases b8 with ⟨_, _, _, _, b4, _⟩ | ⟨hn', _⟩
     ·exact .inl ⟨hlt, ov, a2, a3, un b4, a5⟩
     ·exact (hn' hlt).elim
    ·exact .inr ⟨hn', o', up hb, a3⟩
   apart := R'.f.apart
   free := fun x v hx hv => let ⟨c, o, val, a1, a2, a3⟩ := R'.f.free x v hx hv; ⟨c, o, val, a1, up a2, a3⟩ }

structure OpItF (prog : Program) (w : World) (s₀ : Shared) (A : Around) (env : Env) (tg : Expr) (v : V) (xs : List V) (m : Loc) (H : Hp) : Prop where
 run : ∀ B Z s x, RepF prog w s₀ (frs A) B Z env m H s → Rv prog w Z v x → ∀ Q : Value → Shared → Prop,
  (∀ I h' t obj, s.heap.get? I = none → (∀ b o, s.heap.get? b = some o → h'.get? b = some o) → h'.get? I = some obj → ItOk prog w A Z I xs tg h' → Q (.ref I) { s with heap := h', toks := t }) → wpAny (model prog w) A (pyIter x) Q NoE s
theorem OpIt.toF {tg : Expr} {v : V} {xs : List V} (h : OpIt prog w s₀ A tg v xs H) : OpItF prog w s₀ A env tg v xs m H := .mk fun B Z s x R hv Q hQ => h.run _ Z s x R.enter hv Q hQ
theorem T1.forsF {tg iter body pos} {Q : Fl → Loc → Hp → Prop}
  (h : TE prog w s₀ A env iter (fun v m1 H1 => ∃ xs, OpItF prog w s₀ A env tg v xs m1 H1 ∧ ∃ I : Nat → Loc → Hp → Prop, I 0 m1 H1 ∧
   (∀ i x m2 H2, xs[i]? = some x → I i m2 H2 → TA prog w s₀ A env tg x (fun m3 H3 => TS prog w s₀ A env body (turnQ (I (i + 1)) Q) m3 H3) m2 H2) ∧
   (∀ m2 H2, I xs.length m2 H2 → Q .next m2 H2)) m H)
  (hs : ∀ x, foldedSetIterable iter env x = pure x := by intro _; rfl) : T1 prog w s₀ A env (.For tg iter body [] pos) Q m H := by
 walk_at "prog,w,s₀,H,env,m,A,tg,iter,body,pos,Q|h,hs"
 refine .mk ?_
 intro B Z s R
 walk_at "B,Z,s|R"
 refine wpAny_For (wpAny_mono (h.run B Z s R) ?_ idE) hs
 rintro x s1 xq
 walk_at "x,s1|xq"
 obtain ⟨v, m1, H1, Z1, l1, R1, v1, xq⟩ := xq
 walk_at "v,m1,H1,Z1|l1,R1,v1,xq"
 walk_at "xq,xs|xq"
 obtain ⟨hit, xq⟩ := xq
 walk_at "xq,J|xq"
 obtain ⟨h0, hturn, hend⟩ := xq
 refine hit.run B Z1 s1 x R1 v1 _ ?_
 rintro I h' t obj hnone hk hn xq
 walk_at "I,h',t,obj|hnone,hk,hn,xq"
 walk_at "xq,fp,P,St|xq"
 obtain ⟨W, hfp, hP, hSt, hcell, hlet⟩ := xq
 have hBI := (R1.r.fresh hnone).1
 have hfs := R1.r.notfs hnone
 have hno : NoCD obj := by obtain ⟨o, e1, e2⟩ := hcell _ _ hSt; rw [hn] at e1; (first | obtain ⟨_, rfl⟩ := e1.inv | cases e1); exact e2
 refine codeAny_forLoop_any (fun n s => ∃ k m H Z2 obj, n = xs.length - k ∧ k ≤ xs.length ∧ Mem.Le Z1 Z2 ∧ RepF prog w s₀ (frs A) (B.put I obj) Z2 env m H s ∧ NoCD obj ∧ St k s.heap ∧ J k m H) ?_ xs.length
  ⟨0, m1, H1, Z1, obj, rfl, Nat.zero_le _, Mem.Le.refl _, R1.hold hnone hk hn, hno, hSt, h0⟩
 rintro n s xq
 walk_at "n,s|xq"
 walk_at "xq,k,m,H,Z2|xq"
 walk_at "xq,obj|xq"
 obtain ⟨rfl, hle, l2, R2, hnc, st, hJ⟩ := xq
 have hc2 := hnc.1
 by_cases hlt : k < xs.length
 ·refine W.item k s _ _ hlt st fun x h2 tk hp st2 hk2 => ?_
  walk_at "x,h2,tk|hp,st2,hk2"
  have xq := hcell _ _ st2
  walk_at "xq,obj2|xq"
  obtain ⟨hn2, hc3⟩ := xq
  have R3 := R2.turnIt (t := tk) hfs hBI hc2 (fun b o hb e => hk2 b o (by simpa using hb) e) hn2
  have hx : xs[k]? = some xs[k] := List.getElem?_eq_getElem hlt
  have hv := (hP k _ x hx hp).mono l2
  refine wpAny_mono (hlet k x { s with heap := h2, toks := tk } (fun _ s1' => s1' = { s with heap := h2, toks := tk }) st2 hp rfl) ?_ (fun _ _ x => x.elim)
  rintro _ _ rfl
  refine wpAny_mono ((hturn k _ m H hx hJ).run _ Z2 _ x R3 hv) ?_ (fun _ _ x => x.elim)
  rintro _ s3 ⟨m3, H3, Z3, l3, R4, h3⟩
  walk_at "s3,m3,H3,Z3|l3,R4,h3"
  refine wpAny_mono (h3.run _ Z3 s3 R4) ?_ (fun _ _ x => x.elim)
  rintro f s4 ⟨g, m4, H4, Z4, l4, R5, v4, h4⟩
  walk_at "f,s4,g,m4,H4,Z4|l4,R5,v4,h4"
  have st4 : St (k + 1) s4.heap := W.frame _ _ _ st2 fun b hb o e => by
   walk_at "b,o|hb,e"
   rcases hfp b hb with rfl | ⟨o', ho'⟩
   ·rw [hn2] at e; (first | obtain ⟨_, rfl⟩ := e.inv | cases e)
    obtain ⟨o', g, q⟩ := R5.r.kb _ _ (Mem.put_self ..)
    rw [q.exact hc3.2] at g; exact g
   ·have e1 := R3.r.kz b o' (l2 _ _ ho')
    have e1' : h2.get? b = some o' := e1
    have eo : o' = o := Option.some.inj (e1'.symm.trans e)
    rw [← eo]
    exact R5.r.kz b o' ((l2.trans (l3.trans l4)) _ _ ho')
  have R6 := R5.heldIt (h' := s4.heap) (t := s4.toks) hfs hBI hc3.1 (fun _ _ _ e => e)
  have ll := l1.trans (l2.trans (l3.trans l4))
  cases v4 with
  | next => exact ⟨xs.length - (k + 1), by omega, k + 1, m4, H4, Z4, obj2, rfl, hlt, l2.trans (l3.trans l4), R5, hc3, st4, h4⟩
  | cont => exact ⟨xs.length - (k + 1), by omega, k + 1, m4, H4, Z4, obj2, rfl, hlt, l2.trans (l3.trans l4), R5, hc3, st4, h4⟩
  | brk => exact ⟨.next, m4, H4, Z4, ll, R6, .next, h4⟩
  | ret v x hx => exact ⟨.ret v, m4, H4, Z4, ll, R6, .ret v x hx, h4⟩
 ·have hk' : k = xs.length := Nat.le_antisymm hle (Nat.not_lt.mp hlt)
  subst hk'
  refine W.done s _ _ st fun h2 tk hk2 => ?_
  have R3 := R2.heldIt (t := tk) hfs hBI hc2 (fun b o hb e => hk2 b o (by simpa using hb) e)
  exact wpAny_execs_nil ⟨.next, m, H, Z2, l1.trans l2, R3, .next, hend m H hJ⟩
theorem T1.fors {tg iter body pos} {Q : Fl → Loc → Hp → Prop}
  (h : TE prog w s₀ A env iter (fun v m1 H1 => ∃ xs, OpIt prog w s₀ A tg v xs H1 ∧ ∃ I : Nat → Loc → Hp → Prop, I 0 m1 H1 ∧
   (∀ i x m2 H2, xs[i]? = some x → I i m2 H2 → TA prog w s₀ A env tg x (fun m3 H3 => TS prog w s₀ A env body (turnQ (I (i + 1)) Q) m3 H3) m2 H2) ∧
   (∀ m2 H2, I xs.length m2 H2 → Q .next m2 H2)) m H)
  (hs : ∀ x, foldedSetIterable iter env x = pure x := by intro _; rfl) : T1 prog w s₀ A env (.For tg iter body [] pos) Q m H :=
 T1.forsF (h.mono fun _ _ _ ⟨xs, a, b⟩ => ⟨xs, a.toF, b⟩) hs
end
/-! a call of one of the text's defs -/
inductive Rps (prog : Program) (w : World) (Z : Mem) : List (Str × V) → List (Str × Value) → Prop
 | nil : Rps prog w Z [] []
 | cons (k : Str) (v : V) (x : Value) (vs : List (Str × V)) (xs : List (Str × Value)) (h : Rv prog w Z v x) (r : Rps prog w Z vs xs) : Rps prog w Z ((k, v) :: vs) ((k, x) :: xs)
theorem Rps.append {a b : List (Str × V)} {c d : List (Str × Value)} (h : Rps prog w Z a c) (r : Rps prog w Z b d) : Rps prog w Z (a ++ b) (c ++ d) := by
 induction h with
 | nil => exact r
 | cons k v x vs xs h _ ih => exact .cons k v x _ _ h ih
theorem Rps.reverse {a : List (Str × V)} {c : List (Str × Value)} (h : Rps prog w Z a c) : Rps prog w Z a.reverse c.reverse := by
 induction h with
 | nil => exact .nil
 | cons k v x vs xs h _ ih => rw [List.reverse_cons, List.reverse_cons]; exact ih.append (.cons k v x _ _ h .nil)
theorem Rps.lookup {a : List (Str × V)} {c : List (Str × Value)} (h : Rps prog w Z a c) {x : Str} {v : V} (e : a.lookup x = some v) : ∃ val, c.lookup x = some val ∧ Rv prog w Z v val := by
 induction h with
 | nil => (first | obtain ⟨_, rfl⟩ := e.inv | cases e)
 | cons k v' y vs xs h _ ih =>
  rw [List.lookup_cons] at e ⊢
  cases q : x == k with
  | true => rw [q] at e; (first | obtain ⟨_, rfl⟩ := e.inv | cases e); exact ⟨y, rfl, h⟩
  | false => rw [q] at e; exact ih e
theorem Rps.zip {names : List Str} {vs : List V} {xs : List Value} (h : Rvs prog w Z vs xs) : Rps prog w Z (names.zip vs) (names.zip xs) := by
 induction names generalizing vs xs with
 | nil => exact .nil
 | cons n names ih =>
  cases h with
  | nil => exact .nil
  | cons v x vs xs h r => exact .cons n v x _ _ h (ih r)
theorem Rps.names {a : List (Str × V)} {c : List (Str × Value)} (h : Rps prog w Z a c) : c.map (·.1) = a.map (·.1) := by
 induction h with
 | nil => rfl
 | cons k v x vs xs h _ ih => simp [ih]

structure TBind (prog : Program) (w : World) (s₀ : Shared) (A : Around) (fd : FuncData) (vs : List V) (bs : List (Str × V)) (H : Hp) : Prop where
 run : ∀ B Z s xs, Rep prog w s₀ (frs A) B Z H s → Rvs prog w Z vs xs → wpAny (model prog w) A.in1 (bindArgs fd ⟨xs, []⟩) (fun binds s' => ∃ Z', Mem.Le Z Z' ∧ Rep prog w s₀ (frs A) B Z' H s' ∧ Rps prog w Z' bs binds) NoE s
theorem TBind.plain {fd : FuncData} {vs : List V} {names : List Str} (hn : names.length = vs.length) (h : ∀ xs : List Value, xs.length = names.length → bindArgs fd ⟨xs, []⟩ = pure (names.zip xs)) : TBind prog w s₀ A fd vs (names.zip vs) H :=
 .mk fun B Z s xs R hv => by
  rw [h xs (by rw [hn, hv.length])]
  exact wpAny_pure ⟨Z, Mem.Le.refl _, R, .zip hv⟩

noncomputable def retV : Fl → V
 | .ret v => v
 | _ => .none
noncomputable def plainScope (sc : Scope) : Bool := sc.kind == .function && !sc.isCoroutine && !sc.isGenerator && sc.names.all fun x => x.2 != .cell && x.2 != .free
theorem plain_kind {sc : Scope} (h : plainScope sc = true) {x : Str} : sc.names.lookup x ≠ some .cell ∧ sc.names.lookup x ≠ some .free := by
 simp only [plainScope, Bool.and_eq_true, List.all_eq_true] at h
 refine ⟨fun e => ?_, fun e => ?_⟩
 ·have := h.2 _ (mem_of_lookup e); simp at this
 ·have := h.2 _ (mem_of_lookup e); simp at this
theorem Rep.fsLess (R : Rep prog w s₀ fs B Z H s) {fs' : List Addr} (h : ∀ L ∈ fs', L ∈ fs) : Rep prog w s₀ fs' B Z H s := ⟨R.kb, fun L e => R.fr L (h L e), R.kz, R.dj, R.own, R.lim, R.z0, R.gens, R.os⟩
theorem Rep.fsOf (R : Rep prog w s₀ fs B Z H s) {fs' : List Addr} (h : ∀ L ∈ fs', L ∈ fs ∨ (H L = none ∧ Z L = none ∧ FrAt s.heap L)) : Rep prog w s₀ fs' B Z H s := ⟨R.kb, fun L e => (h L e).elim (R.fr L) id, R.kz, R.dj, R.own, R.lim, R.z0, R.gens, R.os⟩
theorem frs_up {L : Addr} (env : Env) (h : L ∈ frs A) : L ∈ frs (A.deeper env) := by
 walk_at "A,L,env|h"
 unfold frs Around.deeper at *
 cases hf : A.frames with
 | none => rw [hf] at h; exact h
 | some l =>
  rw [hf] at h
  obtain ⟨e, he, hl⟩ := List.mem_filterMap.mp h
  exact List.mem_filterMap.mpr ⟨e, List.mem_cons_of_mem _ he, hl⟩
theorem frs_down {L : Addr} {env : Env} (h : L ∈ frs (A.deeper env)) : L ∈ frs A ∨ env.frame = some L := by
 unfold frs Around.deeper at *
 cases hf : A.frames with
 | none => rw [hf] at h; exact .inl h
 | some l =>
  rw [hf] at h
  obtain ⟨e, he, hl⟩ := List.mem_filterMap.mp h
  rcases List.mem_cons.mp he with rfl | he
  ·exact .inr hl
  ·exact .inl (List.mem_filterMap.mpr ⟨e, he, hl⟩)
noncomputable def RetR (Q : Value → Shared → Prop) (r : Result) (s : Shared) : Prop := match r with
 | .ok (.ret v) => Q v s
 | _ => False
structure TCd (prog : Program) (w : World) (s₀ : Shared) (A : Around) (f : V) (vs : List V) (Q : V → Hp → Prop) (H : Hp) : Prop where
 run : ∀ B Z s x xs, Rep prog w s₀ (frs A) B Z H s → Rv prog w Z f x → Rvs prog w Z vs xs → codeAny (model prog w) A (.call x ⟨xs, []⟩) (RetR (PV prog w s₀ (frs A) B Z Q)) s
theorem TCd.tc {f : V} {vs : List V} {Q : V → Hp → Prop} (h : TCd prog w s₀ A f vs Q H) : TC prog w s₀ A f vs Q H := .mk fun B Z s x xs R a b =>
 wpAny_call (codeAny_mono (h.run B Z s x xs R a b) fun r _ q => by rcases r with e | (v | _ | _ | _) <;> exact q)
theorem TCd.defn {fa : Addr} {o : Obj} {fd : FuncData} {body : List Stmt} {vs : List V} {bs : List (Str × V)} {Q : V → Hp → Prop} (ho : s₀.heap.get? fa = some o) (hd : o.data = .func fd) (hcd : s₀.heap.CodeRec fd.code fd.qualname)
  (hbody : fd.body = .stmts body) (hroom : A.depth < recursionLimit) (hsc : plainScope fd.scope = true) (hb : TBind prog w s₀ A fd vs bs H) (hloc : (bs.all fun x => decide (fd.scope.names.lookup x.1 = some .local)) = true)
  (h : ∀ L, TS prog w s₀ (A.deeper (callEnv fd L fa)) (callEnv fd L fa) body (fun f _ H1 => Q (retV f) H1) (fun x => bs.reverse.lookup x) H) : TCd prog w s₀ A (.raw (.ref fa)) vs Q H := by
 walk_at "prog,w,s₀,H,A,fa,o,fd,body,vs,bs,Q|ho,hd,hcd,hbody,hroom,hsc,hb,hloc,h"
 refine .mk ?_
 intro B Z s x xs R hf hv
 walk_at "B,Z,s,x,xs|R,hf,hv"
 cases hf with
 | raw =>
 have hsc' := hsc
 simp only [plainScope, Bool.and_eq_true, List.all_eq_true, beq_iff_eq, Bool.not_eq_true'] at hsc'
 obtain ⟨⟨⟨hk, hco⟩, hgen⟩, hall⟩ := hsc'
 refine codeAny_call_function hroom (R.kept0 _ _ ho) hd hco hgen hbody (hcd.keeps R.kept0) ?_
 refine wpAny_mono (hb.run B Z s xs R hv) ?_ (fun _ _ x => x.elim)
 rintro binds s1 xq
 walk_at "binds,s1|xq"
 walk_at "xq,Z1|xq"
 obtain ⟨l1, R1, hr⟩ := xq
 have hl : ∀ x ∈ binds, fd.scope.names.lookup x.1 = some .local := fun y hy => by
  have : y.1 ∈ binds.map (·.1) := List.mem_map_of_mem hy
  rw [hr.names] at this
  obtain ⟨z, hz, hzy⟩ := List.mem_map.mp this
  have := List.all_eq_true.mp hloc z hz
  rw [hzy] at this
  exact of_decide_eq_true this
 refine wpAny_newFunctionEnv (fun x hx => by have := hall x hx; simp at this; exact this.1) hl (fun h' hns hsb => ?_) hk
 walk_at "h'|hns,hsb"
 have hkp : ∀ b o, s1.heap.get? b = some o → h'.get? b = some o := fun b o e => hsb.extBut b o (Nat.ne_of_lt (Heap.lt_size e)) (Heap.get?_push_of_some _ e)
 refine ⟨R1.lim.keeps (fun b o e => hkp _ _ (R1.kept0 b o e)), codeAny_func ?_⟩
 have hfr := R1.fresh (get?_size s1.heap)
 have R2 : RepF prog w s₀ (frs (A.deeper (callEnv fd s1.heap.objs.size fa))) B Z1 (callEnv fd s1.heap.objs.size fa) (fun x => bs.reverse.lookup x) H { s1 with heap := h', toks := s1.toks + binds.length } := by
  refine ⟨(R1.keeps hkp).fsOf fun L hL => (frs_down hL).imp_right fun e => ?_, ?_⟩
  ·obtain rfl : s1.heap.objs.size = L := Option.some.inj e
   obtain ⟨o', es, ep, g, d, _⟩ := hns
   exact ⟨hfr.2.2, hfr.2.1, o', es, ep, g, d⟩
  exact {
   ns := ⟨_, hns, fun y v _ e => hr.reverse.lookup e⟩
   lb := hfr.1
   lz := hfr.2.1
   lh := hfr.2.2
   cell := fun y e => ((plain_kind hsc).1 e).elim
   apart := fun y _ _ e => ((plain_kind hsc).1 e).elim
   free := fun y _ e => ((plain_kind hsc).2 e).elim }
 refine wpAny_mono ((h _).run B Z1 _ R2) ?_ (fun _ _ x => x.elim)
 rintro f s3 ⟨g, m3, H3, Z3, l3, R3, v3, h3⟩
 cases v3 with
 | next => exact ⟨.none, H3, Z3, l1.trans l3, R3.r.fsLess fun _ => frs_up _, .none, h3⟩
 | brk => exact ⟨.none, H3, Z3, l1.trans l3, R3.r.fsLess fun _ => frs_up _, .none, h3⟩
 | cont => exact ⟨.none, H3, Z3, l1.trans l3, R3.r.fsLess fun _ => frs_up _, .none, h3⟩
 | ret v x hx => exact ⟨v, H3, Z3, l1.trans l3, R3.r.fsLess fun _ => frs_up _, hx, h3⟩

theorem Rvs.append {a b : List V} {c d : List Value} (h : Rvs prog w Z a c) (r : Rvs prog w Z b d) : Rvs prog w Z (a ++ b) (c ++ d) := by
 induction a generalizing c with
 | nil => (first | obtain ⟨_, rfl⟩ := h.inv | cases h); exact r
 | cons v a ih => cases h with | cons _ x _ c h t => exact .cons v x _ _ h (ih t)

/-! the call's own text -/
theorem evalArgs_spliced {M : Model} {f : Value} {args : List (Bool × Sem Value)} {Q : Args → Shared → Prop} {E : Value → Shared → Prop} (hp : args.any (·.1) = false)
  (h : wpAny M A (spliced args) (fun vs s' => Q ⟨vs, []⟩ s') E s) : wpAny M A (evalArgs f true args []) Q E s := by
 walk_at "s,A,M,f,args,Q,E|hp,h"
 cases args with
 | nil =>
  unfold evalArgs
  show wpAny M A (spliced [] >>= _) Q E s
  refine wpAny_bind (wpAny_mono h (fun vs s' h' => ?_) fun _ _ x => x)
  refine wpAny_holding ?_
  exact wpAny_bind (wpAny_pure (wpAny_bind (wpAny_pure (wpAny_pure h'))))
 | cons a rest =>
  obtain ⟨b, x⟩ := a
  cases b with
  | true => simp at hp
  | false => exact Calls.evalArgs_plain h
structure KeepOk (prog : Program) (w : World) (s₀ : Shared) (f : V) : Prop where
 run : ∀ Z x, Rv prog w Z f x → ∃ k, (k = Keeper.frame ∨ k = Keeper.machine ∨ k = Keeper.boundFrame) ∧ Looks (model prog w) s₀.heap (keeperOf x) k
theorem KeepOk.fn {fa : Addr} {o : Obj} {fd : FuncData} (ho : s₀.heap.get? fa = some o) (hd : o.data = .func fd) : KeepOk prog w s₀ (.raw (.ref fa)) := by
 walk_at "prog,w,s₀,fa,o,fd|ho,hd"
 refine .mk ?_
 intro Z x hx
 walk_at "Z,x|hx"
 cases hx with
 | raw =>
  refine ⟨.frame, .inl rfl, (Looks.ld (part := none) ho).andThen ?_⟩
  rw [hd]; exact .now
theorem KeepOk.val {v : Value} (hv : ∀ a, v ≠ .ref a) : KeepOk prog w s₀ (.raw v) := by
 walk_at "prog,w,s₀,v|hv"
 refine .mk ?_
 intro Z x hx
 walk_at "Z,x|hx"
 cases hx with
 | raw =>
  refine ⟨.machine, .inr (.inl rfl), ?_⟩
  (first | obtain ⟨_, rfl⟩ := v.inv | cases v) <;> first | exact .now | exact (hv _ rfl).elim
theorem callWith_T {f : V} {x : Value} {pos : Pos} {args : List Expr} {first : List Value} {fs : List V} {Q : V → Loc → Hp → Prop} (hk : KeepOk prog w s₀ f) (R : RepF prog w s₀ (frs A) B Z env m H s) (hx : Rv prog w Z f x) (hfs : Rvs prog w Z fs first)
  (hp : (backTo pos (starEach args env)).any (·.1) = false) (h : TL prog w s₀ A env pos args (fun vs m2 H2 => TC prog w s₀ A f (fs ++ vs) (fun v H3 => Q v m2 H3) H2) m H) {callPos : Pos} :
  wpAny (model prog w) A (callWith callPos x first (backTo pos (starEach args env)) []) (PE prog w s₀ (frs A) B Z env Q) NoE s := by
 refine callWith_of (P := fun h => ∀ b o, s₀.heap.get? b = some o → h.get? b = some o) (by rw [hp]; rfl) (fun h hh => let ⟨k, a, b⟩ := hk.run Z x hx; ⟨k, a, b.keeps hh⟩) ?_
 refine evalArgs_spliced hp (wpAny_mono (h.run B Z s R) ?_ idE)
 rintro xs s2 ⟨vs, m2, H2, Z2, l2, R2, v2, h2⟩
 refine ⟨R2.r.kept0, ?_⟩
 exact wpAny_mono (R2.opV (h2.run _ Z2 s2 x (first ++ xs) R2.enter (hx.mono l2) ((hfs.mono l2).append v2)) fun _ _ q => q) (fun _ _ q => PE.le l2 q) idE
theorem TE.call {func : Expr} {args : List Expr} {pos : Pos} {Q : V → Loc → Hp → Prop}
  (h : TE prog w s₀ A env func (fun f m1 H1 => KeepOk prog w s₀ f ∧ TL prog w s₀ A env pos args (fun vs m2 H2 => TC prog w s₀ A f vs (fun v H3 => Q v m2 H3) H2) m1 H1) m H)
  (he : eval (.Call func args [] pos) env = (do callWith pos (← eval func env) [] (backTo pos (starEach args env)) []) := by rfl)
  (hp : (backTo pos (starEach args env)).any (·.1) = false := by rfl) : TE prog w s₀ A env (.Call func args [] pos) Q m H := .mk fun B Z s R => by
 rw [he]
 refine wpAny_bind (wpAny_mono (h.run B Z s R) ?_ idE)
 rintro x s1 ⟨f, m1, H1, Z1, l1, R1, v1, hk, h1⟩
 exact wpAny_mono (callWith_T hk R1 v1 .nil hp h1) (fun _ _ q => PE.le l1 q) idE
theorem PV.tok {Q : V → Hp → Prop} {v : V} {x : Value} {t : Nat} (R : Rep prog w s₀ fs B Z H s) (hv : Rv prog w Z v x) (h : Q v H) : PV prog w s₀ fs B Z Q x { s with toks := t } := ⟨v, H, Z, Mem.Le.refl _, R.tok t, hv, h⟩
theorem PV.same {Q : V → Hp → Prop} {v : V} {x : Value} (R : Rep prog w s₀ fs B Z H s) (hv : Rv prog w Z v x) (h : Q v H) : PV prog w s₀ fs B Z Q x s := ⟨v, H, Z, Mem.Le.refl _, R, hv, h⟩
theorem PP.tok {α : Type} {Q : α → Hp → Prop} {x : α} {t : Nat} (R : Rep prog w s₀ fs B Z H s) (h : Q x H) : PP prog w s₀ fs B Z Q x { s with toks := t } := ⟨H, Z, Mem.Le.refl _, R.tok t, h⟩
theorem PP.same {α : Type} {Q : α → Hp → Prop} {x : α} (R : Rep prog w s₀ fs B Z H s) (h : Q x H) : PP prog w s₀ fs B Z Q x s := ⟨H, Z, Mem.Le.refl _, R, h⟩

/-! ints -/
section
variable {a b : Int} {Q : V → Hp → Prop}
theorem Op2.add (h : Q (.int (a + b)) H) : Op2 prog w s₀ A (binaryOp .Add) (.int a) (.int b) Q H := .mk fun B Z s x y R hx hy => by
 (first | obtain ⟨_, rfl⟩ := hx.inv | cases hx); (first | obtain ⟨_, rfl⟩ := hy.inv | cases hy); exact P.add_int (.tok R (.int _ _) h)
theorem Op2.sub (h : Q (.int (a - b)) H) : Op2 prog w s₀ A (binaryOp .Sub) (.int a) (.int b) Q H := .mk fun B Z s x y R hx hy => by
 (first | obtain ⟨_, rfl⟩ := hx.inv | cases hx); (first | obtain ⟨_, rfl⟩ := hy.inv | cases hy); exact P.sub_int (.tok R (.int _ _) h)
theorem Op2.mul (h : Q (.int (a * b)) H) (hm : IntMulOk a b) : Op2 prog w s₀ A (binaryOp .Mult) (.int a) (.int b) Q H := .mk fun B Z s x y R hx hy => by
 (first | obtain ⟨_, rfl⟩ := hx.inv | cases hx); (first | obtain ⟨_, rfl⟩ := hy.inv | cases hy); exact P.mul_int (.tok R (.int _ _) h) hm
theorem Op2.fdiv (h : Q (.int (a.fdiv b)) H) (hb : b ≠ 0) (hs : b.natAbs < 1073741824) : Op2 prog w s₀ A (binaryOp .FloorDiv) (.int a) (.int b) Q H := .mk fun B Z s x y R hx hy => by
 (first | obtain ⟨_, rfl⟩ := hx.inv | cases hx); (first | obtain ⟨_, rfl⟩ := hy.inv | cases hy); exact floordiv_int hb (.tok R (.int _ _) h) (.inl (PyProof.noPylong_small hs))
theorem Op2.fmod (h : Q (.int (a.fmod b)) H) (hb : b ≠ 0) : Op2 prog w s₀ A (binaryOp .Mod) (.int a) (.int b) Q H := .mk fun B Z s x y R hx hy => by
 (first | obtain ⟨_, rfl⟩ := hx.inv | cases hx); (first | obtain ⟨_, rfl⟩ := hy.inv | cases hy); exact mod_int' hb (.tok R (.int _ _) h)
theorem Op2.shr (h : Q (.int (a.fdiv (2 ^ b.toNat))) H) (hb : 0 ≤ b) : Op2 prog w s₀ A (binaryOp .RShift) (.int a) (.int b) Q H := .mk fun B Z s x y R hx hy => by
 (first | obtain ⟨_, rfl⟩ := hx.inv | cases hx); (first | obtain ⟨_, rfl⟩ := hy.inv | cases hy); exact rshift_int hb (.tok R (.int _ _) h)
theorem Op2.iadd (h : Q (.int (a + b)) H) : Op2 prog w s₀ A (inplaceOp .Add) (.int a) (.int b) Q H := .mk fun B Z s x y R hx hy => by
 (first | obtain ⟨_, rfl⟩ := hx.inv | cases hx); (first | obtain ⟨_, rfl⟩ := hy.inv | cases hy); exact P.iadd_int (.tok R (.int _ _) h)
theorem Op2.isub (h : Q (.int (a - b)) H) : Op2 prog w s₀ A (inplaceOp .Sub) (.int a) (.int b) Q H := .mk fun B Z s x y R hx hy => by
 (first | obtain ⟨_, rfl⟩ := hx.inv | cases hx); (first | obtain ⟨_, rfl⟩ := hy.inv | cases hy); exact P.isub_int (.tok R (.int _ _) h)
theorem Op2.eq (h : Q (.bool (a == b)) H) : Op2 prog w s₀ A (compareOp .Eq) (.int a) (.int b) Q H := .mk fun B Z s x y R hx hy => by
 (first | obtain ⟨_, rfl⟩ := hx.inv | cases hx); (first | obtain ⟨_, rfl⟩ := hy.inv | cases hy); exact P.eq_int (.same R (.bool _) h)
theorem Op2.ne (h : Q (.bool (a != b)) H) : Op2 prog w s₀ A (compareOp .NotEq) (.int a) (.int b) Q H := .mk fun B Z s x y R hx hy => by
 (first | obtain ⟨_, rfl⟩ := hx.inv | cases hx); (first | obtain ⟨_, rfl⟩ := hy.inv | cases hy); exact P.ne_int (.same R (.bool _) h)
theorem Op2.lt (h : Q (.bool (decide (a < b))) H) : Op2 prog w s₀ A (compareOp .Lt) (.int a) (.int b) Q H := .mk fun B Z s x y R hx hy => by
 (first | obtain ⟨_, rfl⟩ := hx.inv | cases hx); (first | obtain ⟨_, rfl⟩ := hy.inv | cases hy); exact P.lt_int (.same R (.bool _) h)
theorem Op2.le (h : Q (.bool (decide (a ≤ b))) H) : Op2 prog w s₀ A (compareOp .LtE) (.int a) (.int b) Q H := .mk fun B Z s x y R hx hy => by
 (first | obtain ⟨_, rfl⟩ := hx.inv | cases hx); (first | obtain ⟨_, rfl⟩ := hy.inv | cases hy); exact P.le_int (.same R (.bool _) h)
theorem Op2.gt (h : Q (.bool (decide (a > b))) H) : Op2 prog w s₀ A (compareOp .Gt) (.int a) (.int b) Q H := .mk fun B Z s x y R hx hy => by
 (first | obtain ⟨_, rfl⟩ := hx.inv | cases hx); (first | obtain ⟨_, rfl⟩ := hy.inv | cases hy); exact P.gt_int (.same R (.bool _) h)
theorem Op2.ge (h : Q (.bool (decide (a ≥ b))) H) : Op2 prog w s₀ A (compareOp .GtE) (.int a) (.int b) Q H := .mk fun B Z s x y R hx hy => by
 (first | obtain ⟨_, rfl⟩ := hx.inv | cases hx); (first | obtain ⟨_, rfl⟩ := hy.inv | cases hy); exact P.ge_int (.same R (.bool _) h)
theorem Op1.neg (h : Q (.int (-a)) H) : Op1 prog w s₀ A (unaryOp .USub) (.int a) Q H := .mk fun B Z s x R hx => by
 (first | obtain ⟨_, rfl⟩ := hx.inv | cases hx); exact P.neg_int (.tok R (.int _ _) h)
end
/-! is None -/
noncomputable def V.isNone : V → Bool
 | .none => true
 | _ => false
noncomputable def V.some? : V → Bool
 | .none => false
 | .raw _ => false
 | _ => true
theorem Rv.none_of {v : V} {x : Value} (h : Rv prog w Z v x) (hv : v.some? = true) : (x == .none) = false := by
 walk_at "prog,w,Z,v,x|h,hv"
 (first | obtain ⟨_, rfl⟩ := h.inv | cases h) <;> first | rfl | (first | obtain ⟨_, rfl⟩ := hv.inv | cases hv)
theorem Op2.isNone_yes {Q : V → Hp → Prop} (h : Q (.bool true) H) : Op2 prog w s₀ A (compareOp .Is) .none .none Q H := .mk fun B Z s x y R hx hy => by
 (first | obtain ⟨_, rfl⟩ := hx.inv | cases hx); (first | obtain ⟨_, rfl⟩ := hy.inv | cases hy); exact is_none (.same R (.bool _) h)
theorem Op2.isNone_no {Q : V → Hp → Prop} {v : V} (hv : v.some? = true) (h : Q (.bool false) H) : Op2 prog w s₀ A (compareOp .Is) v .none Q H := .mk fun B Z s x y R hx hy => by
 (first | obtain ⟨_, rfl⟩ := hy.inv | cases hy); refine is_none ?_; rw [hx.none_of hv]; exact .same R (.bool _) h
theorem Op2.notNone_no {Q : V → Hp → Prop} (h : Q (.bool false) H) : Op2 prog w s₀ A (compareOp .IsNot) .none .none Q H := .mk fun B Z s x y R hx hy => by
 (first | obtain ⟨_, rfl⟩ := hx.inv | cases hx); (first | obtain ⟨_, rfl⟩ := hy.inv | cases hy); exact isNot_none (.same R (.bool _) h)
theorem Op2.notNone_yes {Q : V → Hp → Prop} {v : V} (hv : v.some? = true) (h : Q (.bool true) H) : Op2 prog w s₀ A (compareOp .IsNot) v .none Q H := .mk fun B Z s x y R hx hy => by
 (first | obtain ⟨_, rfl⟩ := hy.inv | cases hy); refine isNot_none ?_; rw [hx.none_of hv]; exact .same R (.bool _) h
/-! truth -/
theorem OpB.bool {b : Bool} {Q : Bool → Hp → Prop} (h : Q b H) : OpB prog w s₀ A truthy (.bool b) Q H := .mk fun B Z s x R hx => by
 (first | obtain ⟨_, rfl⟩ := hx.inv | cases hx); exact wpAny_truthy_bool (.same R h)
theorem OpB.int {a : Int} {Q : Bool → Hp → Prop} (h : Q (a != 0) H) : OpB prog w s₀ A truthy (.int a) Q H := .mk fun B Z s x R hx => by
 (first | obtain ⟨_, rfl⟩ := hx.inv | cases hx); exact P.truthy_int (.same R h)
theorem OpB.none {Q : Bool → Hp → Prop} (h : Q false H) : OpB prog w s₀ A truthy .none Q H := .mk fun B Z s x R hx => by
 (first | obtain ⟨_, rfl⟩ := hx.inv | cases hx); exact truthy_none (.same R h)

/-! texts, by their signs' numbers -/
noncomputable abbrev S (l : List Nat) : V := .str ⟨l.toArray⟩
section
variable {x y : List Nat} {Q : V → Hp → Prop}
theorem length_S (l : List Nat) : (Str.mk l.toArray).length = l.length := by simp [Str.length]
theorem Op2.eq_str (h : Q (.bool (x == y)) H) : Op2 prog w s₀ A (compareOp .Eq) (S x) (S y) Q H := .mk fun B Z s a b R hx hy => by
 (first | obtain ⟨_, rfl⟩ := hx.inv | cases hx); (first | obtain ⟨_, rfl⟩ := hy.inv | cases hy); exact P.eq_str (.same R (.bool _) h)
theorem Op2.ne_str (h : Q (.bool (x != y)) H) : Op2 prog w s₀ A (compareOp .NotEq) (S x) (S y) Q H := .mk fun B Z s a b R hx hy => by
 (first | obtain ⟨_, rfl⟩ := hx.inv | cases hx); (first | obtain ⟨_, rfl⟩ := hy.inv | cases hy); exact P.ne_str (.same R (.bool _) h)
theorem append_S (x y : List Nat) : (Str.mk x.toArray) ++ (Str.mk y.toArray) = Str.mk (x ++ y).toArray := by
 show Str.append _ _ = _
 simp [Str.append]
theorem Op2.add_str (h : Q (S (x ++ y)) H) (hl : x.length + y.length ≤ sizeLine) : Op2 prog w s₀ A (binaryOp .Add) (S x) (S y) Q H := .mk fun B Z s a b R hx hy => by
 (first | obtain ⟨_, rfl⟩ := hx.inv | cases hx); (first | obtain ⟨_, rfl⟩ := hy.inv | cases hy)
 refine P.add_str ?_
 rw [length_S, length_S, append_S]
 by_cases h0 : x = []
 ·subst h0
  exact PV.same R (.str _ _) h
 ·rw [if_neg (by simpa using h0)]
  by_cases h1 : y = []
  ·subst h1
   rw [if_pos (by simp)]
   exact PV.same R (.str _ _) (by simpa using h)
  ·rw [if_neg (by simpa using h1)]
   refine ⟨by rw [length_S]; simpa using hl, ?_⟩
   exact .tok R (.str _ _) h
theorem OpB.str {Q : Bool → Hp → Prop} (h : Q (!x.isEmpty) H) (hl : (x.length : Int) < 2 ^ 63) : OpB prog w s₀ A truthy (S x) Q H := .mk fun B Z s a R hx => by
 (first | obtain ⟨_, rfl⟩ := hx.inv | cases hx)
 refine P.truthy_str (by rw [length_S]; exact o62 hl) (.tok R ?_)
 rw [length_S]
 have : ((x.length : Int) != 0) = !x.isEmpty := by (first | obtain ⟨_, rfl⟩ := x.inv | cases x) <;> simp [bne]; exact o237
 rw [this]; exact h
theorem TC.len_str (h : Q (.int x.length) H) (hl : (x.length : Int) < 2 ^ 63) : TC prog w s₀ A (.raw (.builtin "len")) [S x] Q H := by
 walk_at "prog,w,s₀,H,A,x,Q|h,hl"
 refine .mk ?_
 intro B Z s f xs R hf hx
 walk_at "B,Z,s,f,xs|R,hf,hx"
 (first | obtain ⟨_, rfl⟩ := hf.inv | cases hf); cases hx with | cons _ _ _ _ hx hr => (first | obtain ⟨_, rfl⟩ := hr.inv | cases hr); (first | obtain ⟨_, rfl⟩ := hx.inv | cases hx); refine P.len_str (by rw [length_S]; exact o62 hl) (.tok R ?_ h); rw [length_S]; exact .int _ _
end
/-! slices -/
structure TPart (prog : Program) (w : World) (s₀ : Shared) (A : Around) (env : Env) (e : Option Expr) (Q : Option Int → Loc → Hp → Prop) (m : Loc) (H : Hp) : Prop where
 run : ∀ B Z s, RepF prog w s₀ (frs A) B Z env m H s → wpAny (model prog w) A (evalPart e env) (fun x s' => ∃ k m' H' Z', Mem.Le Z Z' ∧ RepF prog w s₀ (frs A) B Z' env m' H' s' ∧ IsPart x k ∧ Q k m' H') NoE s
theorem TPart.none {Q : Option Int → Loc → Hp → Prop} (h : Q none m H) : TPart prog w s₀ A env none Q m H := .mk fun B Z s R => by
 rw [evalPart_none]; exact wpAny_pure ⟨_, m, H, Z, Mem.Le.refl _, R, .none, h⟩
theorem TPart.some {e : Expr} {Q : Option Int → Loc → Hp → Prop} (h : TE prog w s₀ A env e (fun v m1 H1 => (v = .none ∧ Q Option.none m1 H1) ∨ ∃ i, v = .int i ∧ Q (Option.some i) m1 H1) m H) : TPart prog w s₀ A env (some e) Q m H := by
 walk_at "prog,w,s₀,H,env,m,A,e,Q|h"
 refine .mk ?_
 intro B Z s R
 walk_at "B,Z,s|R"
 rw [evalPart_some]
 refine wpAny_mono (h.run B Z s R) ?_ idE
 rintro x s1 ⟨v, m1, H1, Z1, l1, R1, v1, h1⟩
 rcases h1 with ⟨rfl, h1⟩ | ⟨i, rfl, h1⟩
 ·(first | obtain ⟨_, rfl⟩ := v1.inv | cases v1); exact ⟨_, m1, H1, Z1, l1, R1, .none, h1⟩
 ·(first | obtain ⟨_, rfl⟩ := v1.inv | cases v1); exact ⟨_, m1, H1, Z1, l1, R1, .int _ _, h1⟩
theorem TE.slice {lower upper step : Option Expr} {p : Pos} {Q : V → Loc → Hp → Prop}
  (h : TPart prog w s₀ A env lower (fun a m1 H1 => TPart prog w s₀ A env upper (fun b m2 H2 => TPart prog w s₀ A env step (fun c m3 H3 => Q (.slc a b c) m3 H3) m2 H2) m1 H1) m H) : TE prog w s₀ A env (.Slice lower upper step p) Q m H := by
 walk_at "prog,w,s₀,H,env,m,A,lower,upper,step,p,Q|h"
 refine .mk ?_
 intro B Z s R
 walk_at "B,Z,s|R"
 refine wpAny_Slice (wpAny_mono (h.run B Z s R) ?_ idE)
 rintro x s1 xq
 walk_at "x,s1|xq"
 walk_at "xq,a,m1,H1,Z1|xq"
 obtain ⟨l1, R1, p1, h1⟩ := xq
 refine wpAny_mono (h1.run B Z1 s1 R1) ?_ idE
 rintro y s2 ⟨b, m2, H2, Z2, l2, R2, p2, h2⟩
 refine wpAny_mono (h2.run B Z2 s2 R2) ?_ idE
 rintro z s3 ⟨c, m3, H3, Z3, l3, R3, p3, h3⟩
 have := R3.pushZ { cls := .type "slice", data := .fields #[x, y, z] } rfl
 exact ⟨.slc a b c, m3, H3, _, (l1.trans (l2.trans l3)).trans this.1, this.2, .slc _ _ a b c x y z (Mem.put_self ..) rfl rfl p1 p2 p3, h3⟩
noncomputable def plainSub (slice : Expr) : Prop := ∀ o i, ∃ ops, subscripted slice false o i = operate ops (getItem o i)
theorem Op2.tail {value slice : Expr} {a b : V} {Q : V → Hp → Prop} {T id : String} (hp : plainSub slice) (hT : ∀ (Z : Mem) (s : Shared) x, (∀ c o, Z c = some o → s.heap.get? c = some o) → (∀ c o, H c = some o → ∃ obj, s.heap.get? c = some obj ∧ OIs prog w Z o obj) → Rv prog w Z a x → s.TypeIs x T)
  (hl : typeLookup (.type T) "__getitem__" = pure (some (.builtin id))) (h : Op2 prog w s₀ A getItem a b Q H) : Op2 prog w s₀ A (subscriptTail value slice) a b Q H := .mk fun B Z s x y R hx hy => by
 obtain ⟨ops, hs⟩ := hp x y
 exact tail_any (hT Z s x R.kz (fun c o e => let ⟨_, _, obj, a, b, _⟩ := R.own c o e; ⟨obj, a, b⟩) hx) hl (h.run B Z s x y R hx hy) hs
section
variable {value slice : Expr} {Q : V → Hp → Prop} {xs : List V} {kvs : List (Int × V)} {a : Addr} {b : V} {x : List Nat}
theorem Op2.tail_lst (hp : plainSub slice) (h : Op2 prog w s₀ A getItem (.lst xs) b Q H) : Op2 prog w s₀ A (subscriptTail value slice) (.lst xs) b Q H :=
 .tail (T := "list") hp (fun Z s x kz _ hx => by cases hx with | lst a o _ items hz ho hr => exact ⟨o, kz _ _ hz, ho.parts.1⟩) list_getitem_lookup h
theorem Op2.tail_list (hp : plainSub slice) (ha : H a = some (.list xs)) (h : Op2 prog w s₀ A getItem (.ref a) b Q H) : Op2 prog w s₀ A (subscriptTail value slice) (.ref a) b Q H :=
 .tail (T := "list") hp (fun Z s x kz ho hx => by (first | obtain ⟨_, rfl⟩ := hx.inv | cases hx); obtain ⟨obj, e, items, so, _⟩ := ho _ _ ha; exact ⟨obj, e, so.parts.1⟩) list_getitem_lookup h
theorem Op2.tail_dct (hp : plainSub slice) (h : Op2 prog w s₀ A getItem (.dct kvs) b Q H) : Op2 prog w s₀ A (subscriptTail value slice) (.dct kvs) b Q H :=
 .tail (T := "dict") hp (fun Z s x kz _ hx => by cases hx with | dct a o _ kvr hm hz ho hr => obtain ⟨es, ep, h1, _⟩ := ho; exact ⟨o, kz _ _ hz, h1.1⟩) slot_dict_getitem.lookup h
theorem Op2.tail_dict (hp : plainSub slice) (ha : H a = some (.dict kvs)) (h : Op2 prog w s₀ A getItem (.ref a) b Q H) : Op2 prog w s₀ A (subscriptTail value slice) (.ref a) b Q H :=
 .tail (T := "dict") hp (fun Z s x kz ho hx => by (first | obtain ⟨_, rfl⟩ := hx.inv | cases hx); obtain ⟨obj, e, kvr, ⟨es, ep, h1, _⟩, _⟩ := ho _ _ ha; exact ⟨obj, e, h1.1⟩) slot_dict_getitem.lookup h
theorem Op2.tail_str (hp : plainSub slice) (h : Op2 prog w s₀ A getItem (S x) b Q H) : Op2 prog w s₀ A (subscriptTail value slice) (S x) b Q H :=
 .tail (T := "str") hp (fun Z s x kz ho hx => by (first | obtain ⟨_, rfl⟩ := hx.inv | cases hx); exact typeIs_str _ _ _) F.slot_str_getitem.lookup h
end
/-! items -/
theorem isList_of {h : Heap} {a : Addr} {o : Obj} {items : List Value} (hg : h.get? a = some o) (ho : SeqObj "list" o items) : h.IsList a items.toArray := let ⟨hc, _, n, hd⟩ := ho.parts; ⟨o, hg, hc, n, hd⟩
section
variable {Q : V → Hp → Prop} {xs : List V} {kvs : List (Int × V)} {a : Addr} {k : Int} {v : V}
theorem getItem_nat {l : Addr} {items : List Value} {t : Tok} (hl : s.heap.IsList l items.toArray) (hr : Rvs prog w Z xs items) (R : Rep prog w s₀ fs B Z H s) (h0 : 0 ≤ k) (hf : k < 2 ^ 63) (hx : xs[k.toNat]? = some v) (h : Q v H) :
  wpAny (model prog w) A (getItem (.ref l) (.int k t)) (PV prog w s₀ fs B Z Q) NoE s := by
 obtain ⟨x, e, hv⟩ := hr.at hx
 exact wpAny_getItem_list hl h0 hf (by simpa using e) (.same R hv h)
theorem getItem_neg {l : Addr} {items : List Value} {t : Tok} (hl : s.heap.IsList l items.toArray) (hr : Rvs prog w Z xs items) (R : Rep prog w s₀ fs B Z H s) (h0 : k < 0) (h1 : -(xs.length : Int) ≤ k) (hf : -(2 ^ 63) ≤ k) (hx : xs[(k + xs.length).toNat]? = some v) (h : Q v H) :
  wpAny (model prog w) A (getItem (.ref l) (.int k t)) (PV prog w s₀ fs B Z Q) NoE s := by
 obtain ⟨x, e, hv⟩ := hr.at hx
 have hlen := hr.length
 refine wpAny_getItem_list_neg hl h0 (by simp; exact o209 h1 hlen) hf ?_ (.same R hv h)
 rw [show items.toArray.size = xs.length from by simp [hlen]]
 simpa using e
theorem Op2.item_lst (h0 : 0 ≤ k) (hf : k < 2 ^ 63) (hx : xs[k.toNat]? = some v) (h : Q v H) : Op2 prog w s₀ A getItem (.lst xs) (.int k) Q H := .mk fun B Z s x y R hv hy => by
 (first | obtain ⟨_, rfl⟩ := hy.inv | cases hy); cases hv with | lst a o _ items hz ho hr => exact getItem_nat (isList_of (R.kz _ _ hz) ho) hr R h0 hf hx h
theorem Op2.item_list (ha : H a = some (.list xs)) (h0 : 0 ≤ k) (hf : k < 2 ^ 63) (hx : xs[k.toNat]? = some v) (h : Q v H) : Op2 prog w s₀ A getItem (.ref a) (.int k) Q H := .mk fun B Z s x y R hv hy => by
 (first | obtain ⟨_, rfl⟩ := hy.inv | cases hy); (first | obtain ⟨_, rfl⟩ := hv.inv | cases hv); obtain ⟨_, _, obj, hg, ⟨items, so, hr⟩, _⟩ := R.own _ _ ha; exact getItem_nat (isList_of hg so) hr R h0 hf hx h
theorem Op2.item_lst_neg (h0 : k < 0) (h1 : -(xs.length : Int) ≤ k) (hf : -(2 ^ 63) ≤ k) (hx : xs[(k + xs.length).toNat]? = some v) (h : Q v H) : Op2 prog w s₀ A getItem (.lst xs) (.int k) Q H := by
 walk_at "prog,w,s₀,H,A,Q,xs,k,v|h0,h1,hf,hx,h"
 refine .mk ?_
 intro B Z s x y R hv hy
 walk_at "B,Z,s,x,y|R,hv,hy"
 (first | obtain ⟨_, rfl⟩ := hy.inv | cases hy); cases hv with | lst a o _ items hz ho hr => exact getItem_neg (isList_of (R.kz _ _ hz) ho) hr R h0 h1 hf hx h
theorem Op2.item_list_neg (ha : H a = some (.list xs)) (h0 : k < 0) (h1 : -(xs.length : Int) ≤ k) (hf : -(2 ^ 63) ≤ k) (hx : xs[(k + xs.length).toNat]? = some v) (h : Q v H) : Op2 prog w s₀ A getItem (.ref a) (.int k) Q H := by
 walk_at "prog,w,s₀,H,A,Q,xs,a,k,v|ha,h0,h1,hf,hx,h"
 refine .mk ?_
 intro B Z s x y R hv hy
 walk_at "B,Z,s,x,y|R,hv,hy"
 (first | obtain ⟨_, rfl⟩ := hy.inv | cases hy); (first | obtain ⟨_, rfl⟩ := hv.inv | cases hv); obtain ⟨_, _, obj, hg, ⟨items, so, hr⟩, _⟩ := R.own _ _ ha; exact getItem_neg (isList_of hg so) hr R h0 h1 hf hx h
noncomputable def dget (kvs : List (Int × V)) (k : Int) : Option V := (kvs.find? fun kv => kv.1 = k).map (·.2)
theorem Rks.find {kvr : List (Int × Value)} (h : Rks prog w Z kvs kvr) (k : Int) : (dget kvs k = none ∧ valueAt kvr k = none) ∨ ∃ v x, dget kvs k = some v ∧ valueAt kvr k = some x ∧ Rv prog w Z v x := by
 induction kvs generalizing kvr with
 | nil => (first | obtain ⟨_, rfl⟩ := h.inv | cases h); exact .inl ⟨rfl, rfl⟩
 | cons kv kvs ih =>
  cases h with
  | cons k' v x _ xs h r =>
   by_cases hk : k' = k
   ·exact .inr ⟨v, x, by simp [dget, hk], by simp [valueAt, hk], h⟩
   ·have := ih r
    simpa [dget, valueAt, hk] using this
theorem mapOf_dict {h : Heap} {a : Addr} {o : Obj} {kvr : List (Int × Value)} (hg : h.get? a = some o) (ho : o.IsDictOf (intKind prog w) kvr) : h.MapOf (intKind prog w) a (valueAt kvr) := Heap.DictOf.mapOf (Heap.dictOf_iff.mpr ⟨o, hg, ho⟩)
theorem Op2.item_dct (hx : dget kvs k = some v) (h : Q v H) : Op2 prog w s₀ A getItem (.dct kvs) (.int k) Q H := by
 walk_at "prog,w,s₀,H,A,Q,kvs,k,v|hx,h"
 refine .mk ?_
 intro B Z s x y R hv hy
 walk_at "B,Z,s,x,y|R,hv,hy"
 (first | obtain ⟨_, rfl⟩ := hy.inv | cases hy); cases hv with
 | dct a o _ kvr hm hz ho hr =>
  rcases hr.find k with ⟨e, _⟩ | ⟨v', x', e1, e2, e3⟩
  ·rw [e] at hx; (first | obtain ⟨_, rfl⟩ := hx.inv | cases hx)
  ·rw [e1] at hx; (first | obtain ⟨_, rfl⟩ := hx.inv | cases hx)
   exact wpAny_getItem_of (intKind_is prog w k _) (mapOf_dict (R.kz _ _ hz) ho) e2 (.tok R e3 h)
theorem Op2.item_dict (ha : H a = some (.dict kvs)) (hx : dget kvs k = some v) (h : Q v H) : Op2 prog w s₀ A getItem (.ref a) (.int k) Q H := by
 walk_at "prog,w,s₀,H,A,Q,kvs,a,k,v|ha,hx,h"
 refine .mk ?_
 intro B Z s x y R hv hy
 walk_at "B,Z,s,x,y|R,hv,hy"
 (first | obtain ⟨_, rfl⟩ := hy.inv | cases hy); (first | obtain ⟨_, rfl⟩ := hv.inv | cases hv)
 obtain ⟨_, _, obj, hg, ⟨kvr, ho, hr⟩, _⟩ := R.own _ _ ha
 rcases hr.find k with ⟨e, _⟩ | ⟨v', x', e1, e2, e3⟩
 ·rw [e] at hx; (first | obtain ⟨_, rfl⟩ := hx.inv | cases hx)
 ·rw [e1] at hx; (first | obtain ⟨_, rfl⟩ := hx.inv | cases hx)
  exact wpAny_getItem_of (intKind_is prog w k _) (mapOf_dict hg ho) e2 (.tok R e3 h)
end
/-! methods -/
structure OpM (prog : Program) (w : World) (s₀ : Shared) (A : Around) (name : Str) (a : V) (Q : V → List V → Hp → Prop) (H : Hp) : Prop where
 run : ∀ B Z s x pl, Rep prog w s₀ (frs A) B Z H s → Rv prog w Z a x → wpAny (model prog w) A (getMethod x name pl) (fun r s' => ∃ f fs H' Z', Mem.Le Z Z' ∧ Rep prog w s₀ (frs A) B Z' H' s' ∧ Rv prog w Z' f r.1 ∧ Rvs prog w Z' fs r.2 ∧ Q f fs H') NoE s
theorem TE.meth {o : Expr} {name : Str} {apos pos : Pos} {args : List Expr} {Q : V → Loc → Hp → Prop}
  (h : TE prog w s₀ A env o (fun ov m1 H1 => OpM prog w s₀ A name ov (fun f fs H2 => KeepOk prog w s₀ f ∧ TL prog w s₀ A env pos args (fun vs m2 H3 => TC prog w s₀ A f (fs ++ vs) (fun v H4 => Q v m2 H4) H3) m1 H2) H1) m H)
  (hbase : attributeBase o name env (eval o env) = eval o env := by rfl)
  (hform : methodCallForm (args.length + ([] : List Keyword).length) (backTo pos (starEach args env)) (backToKw pos (keywordEach [] env)) = true := by rfl) (hline : (apos.endLine == pos.line) = true := by rfl)
  (hp : (backTo pos (starEach args env)).any (·.1) = false := by rfl) : TE prog w s₀ A env (.Call (.Attribute o name apos) args [] pos) Q m H := by
 walk_at "prog,w,s₀,H,env,m,A,o,name,apos,pos,args,Q|h,hbase,hform,hline,hp"
 refine .mk ?_
 intro B Z s R
 walk_at "B,Z,s|R"
 rw [arm_eval_Call, hbase]
 refine wpAny_bind (wpAny_mono (h.run B Z s R) ?_ idE)
 rintro x s1 ⟨ov, m1, H1, Z1, l1, R1, v1, h1⟩
 walk_at "x,s1,ov,m1,H1,Z1|l1,R1,v1,h1"
 refine wpAny_bind (wpAny_standAt ?_)
 unfold methodCall
 rw [hform]
 refine wpAny_bind (wpAny_holding (wpAny_mono (h1.run _ Z1 s1 x _ R1.enter v1) ?_ idE))
 rintro ⟨f, first⟩ s2 ⟨fv, fs, H2, Z2, l2, R2, v2, v3, hk, h2⟩
 have hpos : methodCallPos true o env apos pos = pure pos := by unfold methodCallPos; simp [hline]
 refine wpAny_bind (wpAny_of_eq hpos ?_)
 exact wpAny_mono (callWith_T hk (R1.back R2 l2) v2 v3 hp h2) (fun _ _ q => PE.le (l1.trans l2) q) idE
theorem Rvs.one {v : V} {x : Value} (h : Rv prog w Z v x) : Rvs prog w Z [v] [x] := .cons _ _ _ _ h .nil
theorem Rvs.inv1 {a : V} {ys : List Value} (h : Rvs prog w Z [a] ys) : ∃ x, ys = [x] ∧ Rv prog w Z a x := by
 cases h with | cons _ x _ _ h r => (first | obtain ⟨_, rfl⟩ := r.inv | cases r); exact ⟨x, rfl, h⟩
theorem Rvs.two {a b : V} {ys : List Value} (h : Rvs prog w Z [a, b] ys) : ∃ x y, ys = [x, y] ∧ Rv prog w Z a x ∧ Rv prog w Z b y := by
 walk_at "prog,w,Z,a,b,ys|h"
 cases h with | cons _ x _ _ h r => obtain ⟨y, rfl, h'⟩ := r.inv1; exact ⟨x, y, rfl, h, h'⟩
theorem Rvs.three {a b c : V} {ys : List Value} (h : Rvs prog w Z [a, b, c] ys) : ∃ x y z, ys = [x, y, z] ∧ Rv prog w Z a x ∧ Rv prog w Z b y ∧ Rv prog w Z c z := by
 walk_at "prog,w,Z,a,b,c,ys|h"
 cases h with | cons _ x _ _ h r => obtain ⟨y, z, rfl, h', h''⟩ := r.two; exact ⟨x, y, z, rfl, h, h', h''⟩
theorem OpM.of {T : String} {name : Str} {id : String} {a : V} {Q : V → List V → Hp → Prop} (pa : PlainAttrs T) (slot : Slot T name id) (hty : typeOf (.builtin id) = pure (.type "method_descriptor"))
  (hT : ∀ B Z (s : Shared) x, Rep prog w s₀ (frs A) B Z H s → Rv prog w Z a x → s.TypeIs x T ∧ ∀ b, x = .ref b → ∃ o, s.heap.get? b = some o ∧ o.dict = none) (h : Q (.raw (.builtin id)) [a] H) : OpM prog w s₀ A name a Q H := .mk fun B Z s x pl R hx => by
 obtain ⟨h1, h2⟩ := hT B Z s x R hx
 exact getMethod_builtin h1 pa slot hty h2 ⟨_, _, H, Z, Mem.Le.refl _, R, .raw _, .one hx, h⟩
section
variable {a : Addr} {xs : List V} {kvs : List (Int × V)} {Q : V → List V → Hp → Prop}
theorem OpM.list {name : Str} {id : String} (ha : H a = some (.list xs)) (slot : Slot "list" name id) (hty : typeOf (.builtin id) = pure (.type "method_descriptor")) (h : Q (.raw (.builtin id)) [.ref a] H) : OpM prog w s₀ A name (.ref a) Q H :=
 .of F.plainAttrs_list slot hty (fun B Z s x R hx => by
  (first | obtain ⟨_, rfl⟩ := hx.inv | cases hx)
  obtain ⟨_, _, obj, hg, ⟨items, so, _⟩, _⟩ := R.own _ _ ha
  exact ⟨⟨obj, hg, so.parts.1⟩, fun b e => by (first | obtain ⟨_, rfl⟩ := e.inv | cases e); exact ⟨obj, hg, so.parts.2.1⟩⟩) h
theorem OpM.dict {name : Str} {id : String} (ha : H a = some (.dict kvs)) (slot : Slot "dict" name id) (hty : typeOf (.builtin id) = pure (.type "method_descriptor")) (h : Q (.raw (.builtin id)) [.ref a] H) : OpM prog w s₀ A name (.ref a) Q H :=
 .of F.plainAttrs_dict slot hty (fun B Z s x R hx => by
  (first | obtain ⟨_, rfl⟩ := hx.inv | cases hx)
  obtain ⟨_, _, obj, hg, ⟨kvr, ⟨es, ep, h1, _⟩, _⟩, _⟩ := R.own _ _ ha
  exact ⟨⟨obj, hg, h1.1⟩, fun b e => by (first | obtain ⟨_, rfl⟩ := e.inv | cases e); exact ⟨obj, hg, h1.2.1⟩⟩) h
theorem OpM.dct {name : Str} {id : String} (slot : Slot "dict" name id) (hty : typeOf (.builtin id) = pure (.type "method_descriptor")) (h : Q (.raw (.builtin id)) [.dct kvs] H) : OpM prog w s₀ A name (.dct kvs) Q H :=
 .of F.plainAttrs_dict slot hty (fun B Z s x R hx => by
  cases hx with
  | dct b o _ kvr hm hz ho hr =>
   obtain ⟨es, ep, h1, _⟩ := ho
   exact ⟨⟨o, R.kz _ _ hz, h1.1⟩, fun b e => by (first | obtain ⟨_, rfl⟩ := e.inv | cases e); exact ⟨o, R.kz _ _ hz, h1.2.1⟩⟩) h
theorem OpM.set {name : Str} {id : String} {S : Int → Bool} {n : Nat} (ha : H a = some (.set S n)) (slot : Slot "set" name id) (hty : typeOf (.builtin id) = pure (.type "method_descriptor")) (h : Q (.raw (.builtin id)) [.ref a] H) : OpM prog w s₀ A name (.ref a) Q H :=
 .of F.plainAttrs_set slot hty (fun B Z s x R hx => by
  (first | obtain ⟨_, rfl⟩ := hx.inv | cases hx)
  obtain ⟨_, _, obj, hg, so, _⟩ := R.own _ _ ha
  obtain ⟨h1, _⟩ := so
  exact ⟨⟨obj, hg, h1.1⟩, fun b e => by (first | obtain ⟨_, rfl⟩ := e.inv | cases e); exact ⟨obj, hg, h1.2.1⟩⟩) h
theorem OpM.str {name : Str} {id : String} {x : List Nat} (slot : Slot "str" name id) (hty : typeOf (.builtin id) = pure (.type "method_descriptor")) (h : Q (.raw (.builtin id)) [S x] H) : OpM prog w s₀ A name (S x) Q H :=
 .of F.plainAttrs_str slot hty (fun B Z s x R hx => by (first | obtain ⟨_, rfl⟩ := hx.inv | cases hx); exact ⟨typeIs_str _ _ _, fun b e => by (first | obtain ⟨_, rfl⟩ := e.inv | cases e)⟩) h
end
/-! what the list's methods do -/
section
variable {a : Addr} {xs : List V} {kvs : List (Int × V)} {v : V} {Q : V → Hp → Prop}
theorem Rvs.push {vs : List V} {ys : List Value} {v : V} {x : Value} (h : Rvs prog w Z vs ys) (hv : Rv prog w Z v x) : Rvs prog w Z (vs ++ [v]) (ys ++ [x]) := h.append (.one hv)
theorem mapSeq_obj {T : String} {items : List Value} {n : Nat} {f : Array Value → Array Value} {items' : List Value} (h : f items.toArray = items'.toArray) :
  SeqObj T (Obj.mapSeq f { cls := .type T, dict := none, data := .seq items.toArray n, slots := #[] }) items' := by
 simp only [Obj.mapSeq, h]
 exact ⟨_, rfl⟩
theorem TC.append (ha : H a = some (.list xs)) (hl : xs.length ≤ sizeLine) (h : Q .none (H.put a (.list (xs ++ [v])))) : TC prog w s₀ A (.raw (.builtin "list.append")) [.ref a, v] Q H := by
 walk_at "prog,w,s₀,H,A,a,xs,v,Q|ha,hl,h"
 refine .mk ?_
 intro B Z s f ys R hf hy
 walk_at "B,Z,s,f,ys|R,hf,hy"
 (first | obtain ⟨_, rfl⟩ := hf.inv | cases hf)
 have xq := hy.two
 walk_at "xq,x0,x|xq"
 obtain ⟨rfl, h0, hx⟩ := xq
 (first | obtain ⟨_, rfl⟩ := h0.inv | cases h0)
 obtain ⟨_, _, obj, hg, ⟨items, ⟨n, rfl⟩, hi⟩, _⟩ := R.own _ _ ha
 walk_at "items,n|hi,hg"
 have hlen := hi.length
 have hz : items.toArray.size ≤ sizeLine := by simp; exact o9 hl hlen
 refine wpAny_call_entry PySem.slot_list_append (s := s) ⟨_, hg, rfl⟩ PySem.entry_list_append ?_ (PySem.args_list_append _ _)
 show wpAny _ _ (updateSeq a (·.push x) >>= fun _ => ret .none) _ _ s
 refine wpAny_bind (wpAny_updateSeq hg rfl ?_ hz (by simp at hz ⊢; exact o9 hl hlen))
 have so : SeqObj "list" (Obj.mapSeq (·.push x) { cls := .type "list", dict := none, data := .seq items.toArray n, slots := #[] }) (items ++ [x]) := mapSeq_obj (by simp)
 exact wpAny_pure ⟨.none, rfl, ⟨.none, _, Z, Mem.Le.refl _, R.set (t := s.toks) (o := .list (xs ++ [v])) ha (Heap.SameBut.update ..) (Heap.get?_update_self _ hg (by obtain ⟨n', e⟩ := so; rw [e]; rfl)) ⟨_, so, hi.push hx⟩, .none, h⟩⟩
theorem SeqObj.notFreed {T : String} {o : Obj} {items : List Value} (h : SeqObj T o items) : o.isFreed = false := by obtain ⟨n, e⟩ := h; rw [e]; rfl
theorem Rep.setList (R : Rep prog w s₀ fs B Z H s) {items items' : List Value} {xs xs' : List V} {n : Nat} {f : Array Value → Array Value} (ha : H a = some (.list xs)) (hg : s.heap.get? a = some { cls := .type "list", dict := none, data := .seq items.toArray n, slots := #[] })
  (hf : f items.toArray = items'.toArray) (hr : Rvs prog w Z xs' items') (t : Nat := s.toks) : Rep prog w s₀ fs B Z (H.put a (.list xs')) { s with heap := s.heap.update a (Obj.mapSeq f), toks := t } := by
 have so : SeqObj "list" (Obj.mapSeq f { cls := .type "list", dict := none, data := .seq items.toArray n, slots := #[] }) items' := mapSeq_obj hf
 exact R.set (o := .list xs') ha (Heap.SameBut.update ..) (Heap.get?_update_self _ hg so.notFreed) ⟨_, so, hr⟩
theorem Rvs.snoc_inv {v : V} : ∀ {xs : List V} {items : List Value}, Rvs prog w Z (xs ++ [v]) items → ∃ is x, items = is ++ [x] ∧ Rvs prog w Z xs is ∧ Rv prog w Z v x
 | [], items, h => let ⟨x, e, hx⟩ := Rvs.inv1 h; ⟨[], x, e, .nil, hx⟩
 | u :: xs, _, .cons _ y _ _ h r => let ⟨is, x, e, h1, h2⟩ := Rvs.snoc_inv r; ⟨y :: is, x, by rw [e]; rfl, .cons _ _ _ _ h h1, h2⟩
theorem TC.pop (ha : H a = some (.list (xs ++ [v]))) (hl : xs.length < sizeLine) (h : Q v (H.put a (.list xs))) : TC prog w s₀ A (.raw (.builtin "list.pop")) [.ref a] Q H := by
 walk_at "prog,w,s₀,H,A,a,xs,v,Q|ha,hl,h"
 refine .mk ?_
 intro B Z s f ys R hf hy
 walk_at "B,Z,s,f,ys|R,hf,hy"
 (first | obtain ⟨_, rfl⟩ := hf.inv | cases hf)
 have xq := hy.inv1
 walk_at "xq,x0|xq"
 obtain ⟨rfl, h0⟩ := xq
 (first | obtain ⟨_, rfl⟩ := h0.inv | cases h0)
 obtain ⟨_, _, obj, hg, ⟨items, ⟨n, rfl⟩, hi⟩, _⟩ := R.own _ _ ha
 obtain ⟨is, x, rfl, hi1, hx⟩ := hi.snoc_inv
 have hlen := hi1.length
 have hsz : (is ++ [x]).toArray.size ≤ sizeLine := by simp; exact o210 hl hlen
 refine call_meets F.slot_list_pop (s := s) ⟨_, hg, rfl⟩ F.entry_list_pop (F.args_list_pop_1 _) (MeetsSeq.list_pop_last a (is ++ [x]).toArray n x (by simp) hsz) ⟨hg, ?_⟩
 exact ⟨v, _, Z, Mem.Le.refl _, R.setList (items' := is) ha hg (by simp [Array.eraseIdxIfInBounds, List.eraseIdx_append_of_length_le]) hi1, hx, h⟩
theorem Rvs.set {vs : List V} {ys : List Value} (h : Rvs prog w Z vs ys) (i : Nat) {v : V} {x : Value} (hv : Rv prog w Z v x) : Rvs prog w Z (vs.set i v) (ys.set i x) := by
 induction vs generalizing ys i with
 | nil => (first | obtain ⟨_, rfl⟩ := h.inv | cases h); exact .nil
 | cons u vs ih =>
  cases h with
  | cons _ y _ ys h r =>
   cases i with
   | zero => exact .cons _ _ _ _ hv r
   | succ i => exact .cons _ _ _ _ h (ih r i)
theorem OpU.setItem_list {k : Int} {Q : Hp → Prop} (ha : H a = some (.list xs)) (h0 : 0 ≤ k) (hf : k < 2 ^ 63) (hk : k < xs.length) (h : Q (H.put a (.list (xs.set k.toNat v)))) : OpU prog w s₀ A setItem (.ref a) (.int k) v Q H := by
 walk_at "prog,w,s₀,H,A,a,xs,v,k,Q|ha,h0,hf,hk,h"
 refine .mk ?_
 intro B Z s x y z R hx hy hz
 walk_at "B,Z,s,x,y,z|R,hx,hy,hz"
 (first | obtain ⟨_, rfl⟩ := hx.inv | cases hx)
 cases hy with
 | int _ t =>
 obtain ⟨_, _, obj, hg, ⟨items, ⟨n, rfl⟩, hi⟩, _⟩ := R.own _ _ ha
 walk_at "items,n|hi,hg"
 have hl : s.heap.IsList a items.toArray := ⟨_, hg, rfl, n, rfl⟩
 have hlen := hi.length
 unfold setItem
 refine wpAny_holding ?_
 refine wpAny_bind (wpAny_sequenceKey hl.typeIs (by decide) ?_)
 refine wpAny_bind (wpAny_callSpecial?_slot (name := Str.ofString "__setitem__") hl.typeIs slot_list_setitem (wpAny_call_entry slot_list_setitem hl.typeIs entry_list_setitem ?_ (args_list_setitem _ _ _)))
 show wpAny _ _ (Builtin.List.listSubscript? (.int k t) >>= _) _ _ s
 refine wpAny_bind (wpAny_listSubscript_int (fitsIndex_of h0 hf) ?_)
 clear hf
 have xq := Int.eq_ofNat_of_zero_le h0
 walk_at "xq,j|xq"
 obtain rfl := xq
 have hj : j < items.toArray.size := by simp; exact o211 hlen hk
 show wpAny _ _ ((seqItemAt a j >>= fun r => pure (r.map (j, ·))) >>= _) _ _ s
 refine wpAny_bind (wpAny_bind (wpAny_seqItemAt hg rfl (wpAny_pure ?_)))
 rw [Array.getElem?_eq_getElem hj]
 show wpAny _ _ (setSeqItemAt a j z >>= _) _ _ s
 refine wpAny_bind (wpAny_setSeqItemAt hg rfl ?_)
 have R' := R.setList (f := (·.setIfInBounds j z)) (items' := items.set j z) (xs' := xs.set j v) ha hg (by simp) (hi.set j hz)
 exact wpAny_pure ⟨.none, rfl, wpAny_pure ⟨_, Z, Mem.Le.refl _, R', h⟩⟩
theorem TC.clear (ha : H a = some (.list xs)) (hl : xs.length ≤ sizeLine) (h : Q .none (H.put a (.list []))) : TC prog w s₀ A (.raw (.builtin "list.clear")) [.ref a] Q H := by
 walk_at "prog,w,s₀,H,A,a,xs,Q|ha,hl,h"
 refine .mk ?_
 intro B Z s f ys R hf hy
 walk_at "B,Z,s,f,ys|R,hf,hy"
 (first | obtain ⟨_, rfl⟩ := hf.inv | cases hf)
 obtain ⟨x0, rfl, h0⟩ := hy.inv1
 (first | obtain ⟨_, rfl⟩ := h0.inv | cases h0)
 obtain ⟨_, _, obj, hg, ⟨items, ⟨n, rfl⟩, hi⟩, _⟩ := R.own _ _ ha
 have hlen := hi.length
 refine call_meets F.slot_list_clear (s := s) ⟨_, hg, rfl⟩ F.entry_list_clear (F.args_list_clear_1 _) (AutoSeq1.list_clear_list_0 a items.toArray n (by simp; exact o9 hl hlen)) ⟨hg, ?_⟩
 exact ⟨.none, _, Z, Mem.Le.refl _, R.setList (items' := []) ha hg (by simp) .nil, .none, h⟩
end
noncomputable def lex3 (a b : Int × Int × Int) : Bool := if a.1 = b.1 then (if a.2.1 = b.2.1 then decide (a.2.2 < b.2.2) else decide (a.2.1 < b.2.1)) else decide (a.1 < b.1)
theorem richLt_int {a b : Int} {t u : Tok} {Q : Value → Shared → Prop} {E : Value → Shared → Prop} (h : Q (.bool (decide (a < b))) s) : wpAny (model prog w) A (richCompare .Lt (.int a t) (.int b u)) Q E s :=
 P.lt_int (A := A) h
theorem meets_lt3 (l b : Addr) (n n2 : Nat) (a1 a2 a3 b1 b2 b3 : Int) (t1 t2 t3 u1 u2 u3 : Tok) :
  Meets (Builtin.«tuple.__lt__» ⟨[.ref l, .ref b], []⟩)
   (fun A R s => s.heap.get? l = some { cls := .type "tuple", dict := none, data := .seq #[.int a1 t1, .int a2 t2, .int a3 t3] n, slots := #[] } ∧ s.heap.get? b = some { cls := .type "tuple", dict := none, data := .seq #[.int b1 u1, .int b2 u2, .int b3 u3] n2, slots := #[] } ∧
    R (.ok (.ret (.bool (lex3 (a1, a2, a3) (b1, b2, b3))))) s) :=
 .of_wp fun prog w A R s h => by
  obtain ⟨hp, g, d, tk, os⟩ := s; obtain ⟨hl, hb, h⟩ := h
  have f2 := AutoSeq1.sub_tuple_tuple
  wp_walk using wpAny_loadPart' hl, wpAny_loadPart' hb, wpAny_eqBool_int
  by_cases e1 : a1 = b1
  ·rw [if_neg (by simp [e1])]
   wp_walk using wpAny_eqBool_int
   by_cases e2 : a2 = b2
   ·rw [if_neg (by simp [e2])]
    wp_walk using wpAny_eqBool_int
    by_cases e3 : a3 = b3
    ·rw [if_neg (by simp [e3])]
     wp_walk using wpAny_eqBool_int
     refine ⟨_, rfl, ?_⟩
     simpa [lex3, e1, e2, e3, Builtin.Tuple.tupleCompareSizes] using h
    ·rw [if_pos (by simp [e3])]
     wp_walk using richLt_int
     refine ⟨_, rfl, ?_⟩
     simpa [lex3, e1, e2] using h
   ·rw [if_pos (by simp [e2])]
    wp_walk using richLt_int
    refine ⟨_, rfl, ?_⟩
    simpa [lex3, e1, e2] using h
  ·rw [if_pos (by simp [e1])]
   wp_walk using richLt_int
   refine ⟨_, rfl, ?_⟩
   simpa [lex3, e1] using h
noncomputable abbrev T3 (a : Int × Int × Int) : V := .tup [.int a.1, .int a.2.1, .int a.2.2]
theorem Op2.lt3 {a b : Int × Int × Int} {Q : V → Hp → Prop} (hu : A.units < cLine) (h : Q (.bool (lex3 a b)) H) : Op2 prog w s₀ A (compareOp .Lt) (T3 a) (T3 b) Q H := by
 walk_at "prog,w,s₀,H,A,a,b,Q|hu,h"
 refine .mk ?_
 intro B Z s x y R hx hy
 walk_at "B,Z,s,x,y|R,hx,hy"
 cases hx with
 | tup l _ _ items hz ho hr =>
 cases hy with
 | tup l' _ _ items' hz' ho' hr' =>
 obtain ⟨n, rfl⟩ := ho
 obtain ⟨n', rfl⟩ := ho'
 obtain ⟨x1, x2, x3, rfl, h1, h2, h3⟩ := hr.three
 obtain ⟨y1, y2, y3, rfl, k1, k2, k3⟩ := hr'.three
 (first | obtain ⟨_, rfl⟩ := h1.inv | cases h1); (first | obtain ⟨_, rfl⟩ := h2.inv | cases h2); (first | obtain ⟨_, rfl⟩ := h3.inv | cases h3); (first | obtain ⟨_, rfl⟩ := k1.inv | cases k1); (first | obtain ⟨_, rfl⟩ := k2.inv | cases k2); (first | obtain ⟨_, rfl⟩ := k3.inv | cases k3)
 exact richCompare_meets_room (op := .Lt) (s := s) (T := "tuple") ⟨_, R.kz _ _ hz, rfl⟩ ⟨_, R.kz _ _ hz', rfl⟩ F.slot_tuple_lt F.entry_tuple_lt (F.args_tuple_lt_2 _ _) (meets_lt3 l l' n n' _ _ _ _ _ _ _ _ _ _ _ _) ⟨R.kz _ _ hz, R.kz _ _ hz', (show _ ∧ _ from ⟨(fun e => nomatch e), PV.same R (.bool _) h⟩)⟩ hu
/-! lengths -/
theorem TC.len_list {a : Addr} {xs : List V} {Q : V → Hp → Prop} (ha : H a = some (.list xs)) (hl : (xs.length : Int) < 2 ^ 63) (h : Q (.int xs.length) H) : TC prog w s₀ A (.raw (.builtin "len")) [.ref a] Q H := by
 walk_at "prog,w,s₀,H,A,a,xs,Q|ha,hl,h"
 refine .mk ?_
 intro B Z s f ys R hf hy
 walk_at "B,Z,s,f,ys|R,hf,hy"
 (first | obtain ⟨_, rfl⟩ := hf.inv | cases hf)
 have xq := hy.inv1
 walk_at "xq,x0|xq"
 obtain ⟨rfl, h0⟩ := xq
 (first | obtain ⟨_, rfl⟩ := h0.inv | cases h0)
 obtain ⟨_, _, obj, hg, ⟨items, so, hi⟩, _⟩ := R.own _ _ ha
 have hlen := hi.length
 refine Calls.call_len_list (isList_of hg so) (by simp; exact o11 hl hlen) (.tok R ?_ h)
 rw [show ((items.toArray.size : Nat) : Int) = xs.length from by simp [hlen]]
 exact .int _ _
theorem TC.len_lst {xs : List V} {Q : V → Hp → Prop} (hl : (xs.length : Int) < 2 ^ 63) (h : Q (.int xs.length) H) : TC prog w s₀ A (.raw (.builtin "len")) [.lst xs] Q H := by
 walk_at "prog,w,s₀,H,A,xs,Q|hl,h"
 refine .mk ?_
 intro B Z s f ys R hf hy
 walk_at "B,Z,s,f,ys|R,hf,hy"
 (first | obtain ⟨_, rfl⟩ := hf.inv | cases hf)
 have xq := hy.inv1
 walk_at "xq,x0|xq"
 obtain ⟨rfl, h0⟩ := xq
 cases h0 with
 | lst a o _ items hz so hi =>
 have hlen := hi.length
 refine Calls.call_len_list (isList_of (R.kz _ _ hz) so) (by simp; exact o11 hl hlen) (.tok R ?_ h)
 rw [show ((items.toArray.size : Nat) : Int) = xs.length from by simp [hlen]]
 exact .int _ _
theorem OpB.list {a : Addr} {xs : List V} {Q : Bool → Hp → Prop} (ha : H a = some (.list xs)) (hl : (xs.length : Int) < 2 ^ 63) (h : Q (!xs.isEmpty) H) : OpB prog w s₀ A truthy (.ref a) Q H := by
 walk_at "prog,w,s₀,H,A,a,xs,Q|ha,hl,h"
 refine .mk ?_
 intro B Z s x R hx
 walk_at "B,Z,s,x|R,hx"
 (first | obtain ⟨_, rfl⟩ := hx.inv | cases hx)
 obtain ⟨_, _, obj, hg, ⟨items, so, hi⟩, _⟩ := R.own _ _ ha
 have hlen := hi.length
 refine wpAny_truthy_list (isList_of hg so) (by simp; exact o11 hl hlen) (.tok R ?_)
 have : items.toArray.isEmpty = xs.isEmpty := by (first | obtain ⟨_, rfl⟩ := xs.inv | cases xs) <;> (first | obtain ⟨_, rfl⟩ := items.inv | cases items) <;> simp_all
 rw [this]; exact h
theorem OpB.lst {xs : List V} {Q : Bool → Hp → Prop} (hl : (xs.length : Int) < 2 ^ 63) (h : Q (!xs.isEmpty) H) : OpB prog w s₀ A truthy (.lst xs) Q H := by
 walk_at "prog,w,s₀,H,A,xs,Q|hl,h"
 refine .mk ?_
 intro B Z s x R hx
 walk_at "B,Z,s,x|R,hx"
 cases hx with
 | lst a o _ items hz so hi =>
 have hlen := hi.length
 refine wpAny_truthy_list (isList_of (R.kz _ _ hz) so) (by simp; exact o11 hl hlen) (.tok R ?_)
 have : items.toArray.isEmpty = xs.isEmpty := by (first | obtain ⟨_, rfl⟩ := xs.inv | cases xs) <;> (first | obtain ⟨_, rfl⟩ := items.inv | cases items) <;> simp_all
 rw [this]; exact h
/-! in a dict -/
section
variable {kvs : List (Int × V)} {k : Int} {a : Addr} {v : V} {Q : V → Hp → Prop}
noncomputable def dhas (kvs : List (Int × V)) (k : Int) : Bool := (dget kvs k).isSome
theorem Rks.has {kvr : List (Int × Value)} (h : Rks prog w Z kvs kvr) (k : Int) : (valueAt kvr k).isSome = dhas kvs k := by
 rcases h.find k with ⟨a, b⟩ | ⟨v, x, a, b, _⟩
 ·rw [b, dhas, a]; rfl
 ·rw [b, dhas, a]; rfl
theorem ne_mods {a : Addr} (h : a ≠ sysModules) : (a == sysModules) = false := beq_eq_false_iff_ne.mpr h
theorem Op2.in_dct (h : Q (.bool (dhas kvs k)) H) : Op2 prog w s₀ A (compareOp .In) (.int k) (.dct kvs) Q H := by
 walk_at "prog,w,s₀,H,A,kvs,k,Q|h"
 refine .mk ?_
 intro B Z s x y R hx hy
 walk_at "B,Z,s,x,y|R,hx,hy"
 (first | obtain ⟨_, rfl⟩ := hx.inv | cases hx); cases hy with
 | dct b o _ kvr hm hz ho hr => refine wpAny_in_of (intKind_is prog w k _) (ne_mods hm) (mapOf_dict (R.kz _ _ hz) ho) ?_; rw [hr.has]; exact .tok R (.bool _) h
theorem Op2.notin_dct (h : Q (.bool (!dhas kvs k)) H) : Op2 prog w s₀ A (compareOp .NotIn) (.int k) (.dct kvs) Q H := .mk fun B Z s x y R hx hy => by
 (first | obtain ⟨_, rfl⟩ := hx.inv | cases hx); cases hy with
 | dct b o _ kvr hm hz ho hr => refine wpAny_notIn_of (intKind_is prog w k _) (ne_mods hm) (mapOf_dict (R.kz _ _ hz) ho) ?_; rw [hr.has]; exact .tok R (.bool _) h
theorem Op2.in_dict (ha : H a = some (.dict kvs)) (h : Q (.bool (dhas kvs k)) H) : Op2 prog w s₀ A (compareOp .In) (.int k) (.ref a) Q H := .mk fun B Z s x y R hx hy => by
 (first | obtain ⟨_, rfl⟩ := hx.inv | cases hx); (first | obtain ⟨_, rfl⟩ := hy.inv | cases hy)
 obtain ⟨_, _, obj, hg, ⟨kvr, ho, hr⟩, hm⟩ := R.own _ _ ha
 refine wpAny_in_of (intKind_is prog w k _) (ne_mods hm) (mapOf_dict hg ho) ?_; rw [hr.has]; exact .tok R (.bool _) h
theorem Op2.notin_dict (ha : H a = some (.dict kvs)) (h : Q (.bool (!dhas kvs k)) H) : Op2 prog w s₀ A (compareOp .NotIn) (.int k) (.ref a) Q H := .mk fun B Z s x y R hx hy => by
 (first | obtain ⟨_, rfl⟩ := hx.inv | cases hx); (first | obtain ⟨_, rfl⟩ := hy.inv | cases hy)
 obtain ⟨_, _, obj, hg, ⟨kvr, ho, hr⟩, hm⟩ := R.own _ _ ha
 refine wpAny_notIn_of (intKind_is prog w k _) (ne_mods hm) (mapOf_dict hg ho) ?_; rw [hr.has]; exact .tok R (.bool _) h
theorem TC.dget (ha : H a = some (.dict kvs)) (h : Q ((dget kvs k).getD .none) H) : TC prog w s₀ A (.raw (.builtin "dict.get")) [.ref a, .int k] Q H := by
 walk_at "prog,w,s₀,H,A,kvs,k,a,Q|ha,h"
 refine .mk ?_
 intro B Z s f ys R hf hy
 walk_at "B,Z,s,f,ys|R,hf,hy"
 (first | obtain ⟨_, rfl⟩ := hf.inv | cases hf)
 have xq := hy.two
 walk_at "xq,x0,x|xq"
 obtain ⟨rfl, h0, hx⟩ := xq
 (first | obtain ⟨_, rfl⟩ := h0.inv | cases h0); (first | obtain ⟨_, rfl⟩ := hx.inv | cases hx)
 obtain ⟨_, _, obj, hg, ⟨kvr, ho, hr⟩, hm⟩ := R.own _ _ ha
 have hM := mapOf_dict hg ho
 refine call_meetsIn F.slot_dict_get hM.typeIs F.entry_dict_get (F.args_dict_get_2 _ _) (meets_dict_get (intKind prog w) a (intKind_is prog w k _) (ne_mods hm)) ⟨_, hM, ?_⟩
 rcases hr.find k with ⟨e1, e2⟩ | ⟨v, x, e1, e2, e3⟩
 ·rw [e2]; rw [e1] at h; exact PV.tok R .none h
 ·rw [e2]; rw [e1] at h; exact PV.tok R e3 h
noncomputable def dput (kvs : List (Int × V)) (k : Int) (v : V) : List (Int × V) := if dhas kvs k then kvs.map (fun kv => if kv.1 = k then (kv.1, v) else kv) else kvs ++ [(k, v)]
theorem Rks.append {a b : List (Int × V)} {c d : List (Int × Value)} (h : Rks prog w Z a c) (r : Rks prog w Z b d) : Rks prog w Z (a ++ b) (c ++ d) := by
 induction a generalizing c with
 | nil => (first | obtain ⟨_, rfl⟩ := h.inv | cases h); exact r
 | cons v a ih => cases h with | cons k v x _ c h t => exact .cons k v x _ _ h (ih t)
theorem Rks.put {kvr : List (Int × Value)} (h : Rks prog w Z kvs kvr) {x : Value} (hv : Rv prog w Z v x) : Rks prog w Z (kvs.map (fun kv => if kv.1 = k then (kv.1, v) else kv)) (kvr.map (fun kv => if kv.1 = k then (kv.1, x) else kv)) := by
 induction kvs generalizing kvr with
 | nil => (first | obtain ⟨_, rfl⟩ := h.inv | cases h); exact .nil
 | cons kv kvs ih =>
  cases h with
  | cons k' v' x' _ xs h r =>
   simp only [List.map_cons]
   by_cases hk : k' = k
   ·simp only [hk, if_true]; exact .cons _ _ _ _ _ hv (ih r)
   ·simp only [hk, if_false]; exact .cons _ _ _ _ _ h (ih r)
theorem any_has {kvr : List (Int × Value)} (k : Int) : kvr.any (fun kv => decide (kv.1 = k)) = (valueAt kvr k).isSome := by
 induction kvr with
 | nil => rfl
 | cons kv kvr ih =>
  by_cases hk : kv.1 = k
  ·simp [valueAt, hk]
  ·simp only [List.any_cons, hk, decide_false, Bool.false_or, ih]; simp [valueAt, hk]
theorem Rks.stored {kvr : List (Int × Value)} (h : Rks prog w Z kvs kvr) {x : Value} (hv : Rv prog w Z v x) : Rks prog w Z (dput kvs k v) (stored kvr k x) := by
 unfold dput PySem.stored
 rw [any_has, h.has]
 cases dhas kvs k with
 | true => exact h.put hv
 | false => exact h.append (.cons _ _ _ _ _ hv .nil)
theorem OpU.setItem_dict {Q : Hp → Prop} (ha : H a = some (.dict kvs)) (hl : kvs.length ≤ sizeLine) (h : Q (H.put a (.dict (dput kvs k v)))) : OpU prog w s₀ A setItem (.ref a) (.int k) v Q H := by
 walk_at "prog,w,s₀,H,A,kvs,k,a,v,Q|ha,hl,h"
 refine .mk ?_
 intro B Z s x y z R hx hy hz
 walk_at "B,Z,s,x,y,z|R,hx,hy,hz"
 (first | obtain ⟨_, rfl⟩ := hx.inv | cases hx); (first | obtain ⟨_, rfl⟩ := hy.inv | cases hy)
 obtain ⟨_, _, obj, hg, ⟨kvr, ho, hr⟩, hm⟩ := R.own _ _ ha
 refine wpAny_setItem_pairs (intKind_is prog w k _) (Heap.dictOf_iff.mpr ⟨obj, hg, ho⟩) (fun h' hD hs => ?_) (by rw [← hr.length]; exact hl)
 obtain ⟨obj', hg', ho'⟩ := Heap.dictOf_iff.mp hD
 exact ⟨_, Z, Mem.Le.refl _, R.set (o := .dict (dput kvs k v)) ha hs hg' ⟨_, ho', hr.stored hz⟩, h⟩
end
/-! in a list of ints -/
noncomputable def intsV (l : List Int) : List V := l.map .int
theorem Rvs.ints_inv {l : List Int} : ∀ {ys : List Value}, Rvs prog w Z (intsV l) ys → ∀ k : Int, (∀ y ∈ ys, ∃ a t, y = .int a t) ∧ ys.any (fun y => match y with | .int a _ => a == k | _ => false) = l.any (· == k) := by
 walk_at "prog,w,Z,l|"
 induction l with
 | nil => intro ys h k; (first | obtain ⟨_, rfl⟩ := h.inv | cases h); exact ⟨(fun y hy => nomatch hy), rfl⟩
 | cons i l ih =>
  walk_at "i,l|ih"
  intro ys h k
  walk_at "ys,k|h"
  cases h with
  | cons _ y _ ys hy hr =>
   cases hy with
   | int _ t =>
    obtain ⟨h1, h2⟩ := ih hr k
    exact ⟨fun y hy => by rcases List.mem_cons.mp hy with rfl | hy; exact ⟨_, _, rfl⟩; exact h1 y hy, by simp only [List.any_cons, h2]⟩
section
variable {l : List Int} {k : Int} {Q : V → Hp → Prop}
noncomputable def isK (k : Int) : Value → Bool := fun y => match y with | .int a _ => a == k | _ => false
theorem any_toArray {ys : List Value} {e : Value → Bool} : ys.toArray.any e = ys.any e := by simp
theorem Op2.notin_lst (h : Q (.bool (!l.any (· == k))) H) : Op2 prog w s₀ A (compareOp .NotIn) (.int k) (.lst (intsV l)) Q H := by
 walk_at "prog,w,s₀,H,A,l,k,Q|h"
 refine .mk ?_
 intro B Z s x y R hx hy
 walk_at "B,Z,s,x,y|R,hx,hy"
 cases hx with
 | int _ t =>
 cases hy with
 | lst a o _ items hz ho hr =>
 obtain ⟨h1, h2⟩ := hr.ints_inv k
 refine SeqAt.notIn_listAt (isK k) (isList_of (R.kz _ _ hz) ho) (fun y hy => ?_) ?_
 ·obtain ⟨b, u, rfl⟩ := h1 y (by simpa using hy); exact SeqAt.EqAt.int_int b u k t
 ·rw [any_toArray]; exact .same R (.bool _) (by rw [← h2] at h; exact h)
end
/-! sets of ints -/
section
variable {S : Int → Bool} {n : Nat} {a : Addr} {k : Int} {Q : V → Hp → Prop}
theorem Op2.in_set (ha : H a = some (.set S n)) (hn : n < scanBound) (h : Q (.bool (S k)) H) : Op2 prog w s₀ A (compareOp .In) (.int k) (.ref a) Q H := .mk fun B Z s x y R hx hy => by
 (first | obtain ⟨_, rfl⟩ := hx.inv | cases hx); (first | obtain ⟨_, rfl⟩ := hy.inv | cases hy)
 obtain ⟨_, _, obj, hg, ho, hm⟩ := R.own _ _ ha
 exact wpAny_inSet_of (intKind_is prog w k _) rfl (Obj.SetObjOf.setOf ho hg hn) (.tok R (.bool _) h)
theorem TC.set_add (ha : H a = some (.set S n)) (hn : n + 1 < scanBound) (h : Q .none (H.put a (.set (fun k' => S k' || decide (k' = k)) (if S k then n else n + 1)))) : TC prog w s₀ A (.raw (.builtin "set.add")) [.ref a, .int k] Q H := by
 walk_at "prog,w,s₀,H,A,S,n,a,k,Q|ha,hn,h"
 refine .mk ?_
 intro B Z s f ys R hf hy
 walk_at "B,Z,s,f,ys|R,hf,hy"
 (first | obtain ⟨_, rfl⟩ := hf.inv | cases hf)
 obtain ⟨x0, x, rfl, h0, hx⟩ := hy.two
 (first | obtain ⟨_, rfl⟩ := h0.inv | cases h0); (first | obtain ⟨_, rfl⟩ := hx.inv | cases hx)
 obtain ⟨_, _, obj, hg, ho, hm⟩ := R.own _ _ ha
 refine call_set_add (intKind_is prog w k _) rfl (Obj.SetObjOf.setOf ho hg (by exact o59 hn)) hn fun h' hs hS => ?_
 obtain ⟨o', hg', ho'⟩ := hS.objOf
 exact ⟨.none, _, Z, Mem.Le.refl _, R.set (o := .set (fun k' => S k' || decide (k' = k)) (if S k then n else n + 1)) ha hs hg' ho', .none, h⟩
end
/-! two lists put together -/
theorem Op2.cat {xs ys : List V} {Q : V → Hp → Prop} (hl : xs.length + ys.length ≤ sizeLine) (h : Q (.lst (xs ++ ys)) H) : Op2 prog w s₀ A (binaryOp .Add) (.lst xs) (.lst ys) Q H := by
 walk_at "prog,w,s₀,H,A,xs,ys,Q|hl,h"
 refine .mk ?_
 intro B Z s x y R hx hy
 walk_at "B,Z,s,x,y|R,hx,hy"
 cases hx with
 | lst a o _ items hz ho hr =>
 cases hy with
 | lst b o' _ items' hz' ho' hr' =>
 walk_at "ho,n|ho"
 obtain rfl := ho
 walk_at "ho',n'|ho'"
 obtain rfl := ho'
 have e1 := hr.length
 have e2 := hr'.length
 refine concat_meets (s := s) (T := "list") ⟨_, R.kz _ _ hz, rfl⟩ ⟨_, R.kz _ _ hz', rfl⟩ noFill_list_add seq_list_add F.slot_list_add F.entry_list_add (F.args_list_add_2 _ _) (list_addW a b items.toArray items'.toArray n n' none none #[] #[] (by simp; exact o212 hl e1 e2)) ⟨R.kz _ _ hz, R.kz _ _ hz', ?_⟩
 have hfr := (R.fresh (get?_size s.heap)).2.1
 have l := Mem.le_put hfr ({ cls := .type "list", data := .seq (items.toArray ++ items'.toArray) } : Obj)
 exact ⟨.lst (xs ++ ys), H, _, l, R.allocZ (t := s.toks) (get?_size _) (fun _ _ e => Heap.get?_push_of_some _ e) (Heap.get?_push_size _ rfl), .lst _ _ _ (items ++ items') (Mem.put_self ..) ⟨0, by simp⟩ ((hr.append hr').mono l), h⟩
theorem PV.newZ {Q : V → Hp → Prop} {v : V} {obj : Obj} {h' : Heap} {t : Nat} {a : Addr} (R : Rep prog w s₀ fs B Z H s) (ha : s.heap.get? a = none) (hk : ∀ b o, s.heap.get? b = some o → h'.get? b = some o) (hn : h'.get? a = some obj)
  (hv : Rv prog w (Z.put a obj) v (.ref a)) (h : Q v H) : PV prog w s₀ fs B Z Q (.ref a) { s with heap := h', toks := t } :=
 ⟨v, H, _, Mem.le_put (R.fresh ha).2.1 obj, R.allocZ ha hk hn, hv, h⟩
theorem PV.newH {Q : V → Hp → Prop} {o : O} {obj : Obj} {h' : Heap} {t : Nat} {a : Addr} (R : Rep prog w s₀ fs B Z H s) (ha : s.heap.get? a = none) (hm : a ≠ sysModules) (hk : ∀ b o, s.heap.get? b = some o → h'.get? b = some o) (hn : h'.get? a = some obj)
  (ho : OIs prog w Z o obj) (h : H a = none → Q (.ref a) (H.put a o)) : PV prog w s₀ fs B Z Q (.ref a) { s with heap := h', toks := t } :=
 ⟨.ref a, _, Z, Mem.Le.refl _, R.alloc ha hk hn ho hm, .ref a, h (R.fresh ha).2.2⟩
/-! range -/
section
variable {a b c : Int} {Q : V → Hp → Prop}
theorem TC.range1 (h : Q (.rng 0 b 1) H) : TC prog w s₀ A (.raw (.type "range")) [.int b] Q H := .mk fun B Z s f ys R hf hy => by
 (first | obtain ⟨_, rfl⟩ := hf.inv | cases hf)
 obtain ⟨x, rfl, hx⟩ := hy.inv1
 (first | obtain ⟨_, rfl⟩ := hx.inv | cases hx)
 exact call_range_1 (.newZ R (get?_size _) (fun _ _ e => Heap.get?_push_of_some _ e) (Heap.get?_push_size _ rfl) (.rng _ 0 b 1 _ _ _ (Mem.put_self ..)) h)
theorem TC.range3 (hc : c ≠ 0) (hs : c.natAbs < 1073741824) (h : Q (.rng a b c) H) : TC prog w s₀ A (.raw (.type "range")) [.int a, .int b, .int c] Q H := by
 walk_at "prog,w,s₀,H,A,a,b,c,Q|hc,hs,h"
 refine .mk ?_
 intro B Z s f ys R hf hy
 walk_at "B,Z,s,f,ys|R,hf,hy"
 (first | obtain ⟨_, rfl⟩ := hf.inv | cases hf)
 obtain ⟨x, y, z, rfl, hx, hy', hz⟩ := hy.three
 (first | obtain ⟨_, rfl⟩ := hx.inv | cases hx); (first | obtain ⟨_, rfl⟩ := hy'.inv | cases hy'); (first | obtain ⟨_, rfl⟩ := hz.inv | cases hz)
 exact call_range_3 hc (.newZ R (get?_size _) (fun _ _ e => Heap.get?_push_of_some _ e) (Heap.get?_push_size _ rfl) (.rng _ a b c _ _ _ (Mem.put_self ..)) h) (.inl (PyProof.noPylong_small hs))
end
/-! min -/
theorem TC.min2 {a b : Int} {Q : V → Hp → Prop} (hh : A.handled = none) (h : Q (.int (min a b)) H) : TC prog w s₀ A (.raw (.builtin "min")) [.int a, .int b] Q H := .mk fun B Z s f ys R hf hy => by
 (first | obtain ⟨_, rfl⟩ := hf.inv | cases hf)
 obtain ⟨x, y, rfl, hx, hy'⟩ := hy.two
 (first | obtain ⟨_, rfl⟩ := hx.inv | cases hx); (first | obtain ⟨_, rfl⟩ := hy'.inv | cases hy')
 refine min_two_ints hh fun h' tk hk => ?_
 refine ⟨_, H, Z, Mem.Le.refl _, R.keeps hk, ?_, h⟩
 by_cases c : b < a
 ·rw [if_pos c, show min a b = b from by exact o213 c]; exact .int _ _
 ·rw [if_neg c, show min a b = a from by exact o214 c]; exact .int _ _
/-! tuple(xs), set(), bool(xs) -/
theorem TC.tuple_list {a : Addr} {xs : List V} {Q : V → Hp → Prop} (ha : H a = some (.list xs)) (hl : xs.length ≤ sizeLine) (h : Q (.tup xs) H) : TC prog w s₀ A (.raw (.type "tuple")) [.ref a] Q H := by
 walk_at "prog,w,s₀,H,A,a,xs,Q|ha,hl,h"
 refine .mk ?_
 intro B Z s f ys R hf hy
 walk_at "B,Z,s,f,ys|R,hf,hy"
 (first | obtain ⟨_, rfl⟩ := hf.inv | cases hf)
 have xq := hy.inv1
 walk_at "xq,x|xq"
 obtain ⟨rfl, hx⟩ := xq
 (first | obtain ⟨_, rfl⟩ := hx.inv | cases hx)
 obtain ⟨_, _, obj, hg, ⟨items, so, hi⟩, _⟩ := R.own _ _ ha
 walk_at "obj,items|hg,so,hi"
 have e := hi.length
 refine call_tuple_list (isList_of hg so) (fun h' hk => ?_) (by simp; exact o9 hl e)
 have hn : s.heap.get? h'.objs.size = none := by
  cases q : s.heap.get? h'.objs.size with
  | none => rfl
  | some o => exact absurd (Heap.lt_size (hk _ _ q)) (Nat.lt_irrefl _)
 exact .newZ R hn (fun _ _ e => Heap.get?_push_of_some _ (hk _ _ e)) (Heap.get?_push_size _ rfl) (.tup _ _ _ items (Mem.put_self ..) ⟨0, rfl⟩ (hi.mono (Mem.le_put (R.fresh hn).2.1 _))) h
theorem TC.set0 {Q : V → Hp → Prop} (h : ∀ a, H a = none → Q (.ref a) (H.put a (.set (fun _ => false) 0))) : TC prog w s₀ A (.raw (.type "set")) [] Q H := .mk fun B Z s f ys R hf hy => by
 (first | obtain ⟨_, rfl⟩ := hf.inv | cases hf)
 (first | obtain ⟨_, rfl⟩ := hy.inv | cases hy)
 exact call_set_0 fun led => .newH R (get?_size _) R.nomods (fun _ _ e => Heap.get?_push_of_some _ e) (Heap.get?_push_size _ rfl) (o := .set (fun _ => false) 0) (setObjOf_fresh led) (h _)
/-! iter(xs) -/
theorem TC.iter_lst {xs : List V} {Q : V → Hp → Prop} (h : ∀ a, H a = none → Q (.ref a) (H.put a (.iter xs 0))) : TC prog w s₀ A (.raw (.builtin "iter")) [.lst xs] Q H := by
 walk_at "prog,w,s₀,H,A,xs,Q|h"
 refine .mk ?_
 intro B Z s f ys R hf hy
 walk_at "B,Z,s,f,ys|R,hf,hy"
 (first | obtain ⟨_, rfl⟩ := hf.inv | cases hf)
 have xq := hy.inv1
 walk_at "xq,x|xq"
 obtain ⟨rfl, hx⟩ := xq
 cases hx with
 | lst l o _ items hz so hi =>
 refine Calls.call_function_entry (by decide +kernel) (by decide +kernel) kdk_entry_iter (kdk_args_iter _) ?_
 unfold Builtin.«iter»
 refine wpAny_bind (m := someArgs "iter" 1 2 _) (wpAny_of_eq (a := [Value.ref l]) (by first | rfl | kernel_rfl!) ?_)
 show wpAny _ _ (pyIter (.ref l) >>= _) _ _ _
 refine wpAny_bind (wpAny_pyIter_list (isList_of (R.kz _ _ hz) so) ?_)
 exact wpAny_pure ⟨_, rfl, .newH R (t := s.toks) (get?_size _) R.nomods (fun _ _ e => Heap.get?_push_of_some _ e) (Heap.get?_push_size _ rfl) (o := .iter xs 0) ⟨l, o, items, rfl, hz, so, hi⟩ (h _)⟩
/-! sum of ints -/
theorem intsAre_of {l : List Int} : ∀ {ys : List Value}, Rvs prog w Z (intsV l) ys → IntsAre ys l := by
 induction l with
 | nil => intro ys h; (first | obtain ⟨_, rfl⟩ := h.inv | cases h); exact .nil
 | cons i l ih => intro ys h; cases h with | cons _ y _ ys hy hr => (first | obtain ⟨_, rfl⟩ := hy.inv | cases hy); exact .cons _ _ (ih hr)
theorem rvs_of_ints {l : List Int} : ∀ {ys : List Value}, IntsAre ys l → Rvs prog w Z (intsV l) ys := by
 induction l with
 | nil => intro ys h; (first | obtain ⟨_, rfl⟩ := h.inv | cases h); exact .nil
 | cons i l ih => intro ys h; cases h with | cons _ _ h => exact .cons _ _ _ _ (.int _ _) (ih h)
theorem preSum_eq (l : List Int) : ∀ n, n ≤ l.length → preSum (fun i => l.getD i 0) n = (l.take n).sum := by
 intro n
 induction n with
 | zero => intro _; rfl
 | succ n ih =>
  intro h
  have hn : n < l.length := by exact o215 h
  have e : l.take (n + 1) = l.take n ++ [l[n]] := by rw [List.take_add_one, List.getElem?_eq_getElem hn]; rfl
  rw [preSum, ih (by omega), e, List.sum_append, List.sum_cons, List.sum_nil, Int.add_zero]
  congr 1
  simp [hn]
theorem ints_get {l : List Int} {ys : List Value} (h : Rvs prog w Z (intsV l) ys) {i : Nat} {x : Value} (e : ys[i]? = some x) : ∃ t, x = .int (l.getD i 0) t := by
 walk_at "prog,w,Z,l,ys,i,x|h,e"
 have hlen := h.length
 obtain ⟨hi, _⟩ := List.getElem?_eq_some_iff.mp e
 have hi' : i < l.length := by simp [intsV] at hlen; omega
 have hv : (intsV l)[i]? = some (.int l[i]) := by simp [intsV, hi']
 have := h.get hv e
 have e2 : l.getD i 0 = l[i] := by simp [hi']
 rw [e2]
 cases this with | int _ t => exact ⟨t, rfl⟩
theorem TC.sum_lst {l : List Int} {Q : V → Hp → Prop} (hh : A.handled = none) (h : Q (.int l.sum) H) : TC prog w s₀ A (.raw (.builtin "sum")) [.lst (intsV l)] Q H := by
 walk_at "prog,w,s₀,H,A,l,Q|hh,h"
 refine .mk ?_
 intro B Z s f ys R hf hy
 walk_at "B,Z,s,f,ys|R,hf,hy"
 (first | obtain ⟨_, rfl⟩ := hf.inv | cases hf)
 have xq := hy.inv1
 walk_at "xq,x|xq"
 obtain ⟨rfl, hx⟩ := xq
 cases hx with
 | lst a o _ items hz so hi =>
 have hl := isList_of (R.kz _ _ hz) so
 have hne : a ≠ s.heap.objs.size := Nat.ne_of_lt (Heap.lt_size (R.kz _ _ hz))
 refine call_sum_walkAnyS (wpAny_pyIter_list hl ?_)
 have W := Walks.list (prog := prog) (w := w) (A := A.in1) hh s.heap.objs.size a hne items.toArray
 refine ⟨_, _, _, _, _, _, _, fun i => l.getD i 0, rfl, W.toS, ?_, ?_, ?_, ?_⟩
 ·exact ⟨⟨_, Heap.get?_push_size _ rfl, rfl, rfl⟩, hl.push _⟩
 ·intro b hb
  walk_at "b|hb"
  simp only [List.mem_cons, List.not_mem_nil, or_false] at hb
  have := Heap.lt_size (R.kz _ _ hz)
  simp only [Heap.size_push]
  rcases hb with rfl | rfl
  ·exact Nat.lt_succ_self _
  ·exact Nat.lt_succ_of_lt this
 ·intro i v e; exact ints_get hi (by simpa using e)
 ·intro s' t' mv
  walk_at "s',t'|mv"
  have hlen := hi.length
  have e : preSum (fun i => l.getD i 0) items.toArray.size = l.sum := by
   rw [preSum_eq l _ (by simp [intsV] at hlen ⊢; exact o216 hlen)]
   rw [List.take_of_length_le (by simp [intsV] at hlen ⊢; exact o32 hlen)]
  rw [e]
  have hk : ∀ b o, s.heap.get? b = some o → s'.heap.get? b = some o := fun b o e => mv.heap b o (by simp; exact Nat.ne_of_lt (Heap.lt_size e)) (Heap.get?_push_of_some _ e)
  have R' := R.keeps (h' := s'.heap) (t := s'.toks) hk
  refine ⟨_, H, Z, Mem.Le.refl _, ⟨R'.kb, R'.fr, R'.kz, R'.dj, R'.own, R'.lim, R'.z0, ?_, ?_⟩, .int _ _, h⟩
  ·exact (show s'.gens = _ from mv.gens).trans R.gens
  ·exact mv.os.trans R.os
/-! sorted(xs) of ints -/
/-! pieces of a text -/
section
variable {x : List Nat} {lo hi : Option Int} {Q : V → Hp → Prop}
theorem IsPart.val {v : Value} {k : Option Int} (h : IsPart v k) : ∃ p : Option (Int × Tok), v = partValue p ∧ p.map (·.1) = k := by
 cases h with
 | none => exact ⟨none, rfl, rfl⟩
 | int i t => exact ⟨some (i, t), rfl, rfl⟩
theorem Op2.slice_str {a b : Nat} (he : Builtin.Str.strSliceIndices lo hi 1 x.length = sliceRange a b 1) (hab : a ≤ b) (hb : b ≤ x.length) (hl : x.length ≤ sizeLine) (h : Q (S ((x.drop a).take (b - a))) H) : Op2 prog w s₀ A getItem (S x) (.slc lo hi none) Q H := by
 walk_at "prog,w,s₀,H,A,x,lo,hi,Q,a,b|he,hab,hb,hl,h"
 refine .mk ?_
 intro B Z s y z R hx hy
 walk_at "B,Z,s,y,z|R,hx,hy"
 cases hx with
 | str _ t =>
 cases hy with
 | slc sl o _ _ _ vl vu vs hz hc hd pl pu ps =>
 have xq := IsPart.val pl
 walk_at "xq,pl'|xq"
 obtain ⟨rfl, rfl⟩ := xq
 have xq := IsPart.val pu
 walk_at "xq,pu'|xq"
 obtain ⟨rfl, rfl⟩ := xq
 (first | obtain ⟨_, rfl⟩ := ps.inv | cases ps)
 refine wpAny_getItem_str_slice (l := pl') (u := pu') (st := none) ⟨o, R.kz _ _ hz, hc, hd⟩ rfl ?_
 have hp : slicePicked ⟨x.toArray⟩ pl' pu' none = (List.range (b - a)).map (a + ·) := by
  unfold slicePicked
  rw [length_S]
  show Builtin.Str.strSliceIndices _ _ 1 _ = _
  rw [he, sliceRange_one]
 have hlen : (slicePicked ⟨x.toArray⟩ pl' pu' none).length = b - a := by rw [hp]; simp
 unfold sliceMade
 rw [hlen, length_S]
 by_cases hc : b - a = x.length
 ·rw [if_pos (by simp [hc])]
  have e : (x.drop a).take (b - a) = x := by
   have ha : a = 0 := by exact o217 hab hb hc
   subst ha
   rw [hc]; simp
  rw [e] at h
  exact PV.same R (.str _ _) h
 ·rw [if_neg (by simp [hc])]
  have e : ((slicePicked ⟨x.toArray⟩ pl' pu' none).filterMap ((Str.mk x.toArray).cps[·]?)) = (x.drop a).take (b - a) := by
   rw [hp]
   have := pick_run x.toArray a (b - a)
   simpa using this
  rw [e]
  refine ⟨?_, ?_⟩
  ·rw [length_S]; simp; exact o218 hl
  ·exact PV.tok R (.str _ _) h
theorem Op2.str_from {a : Nat} (ha : a ≤ x.length) (hl : x.length ≤ sizeLine) (h : Q (S (x.drop a)) H) : Op2 prog w s₀ A getItem (S x) (.slc (some (a : Int)) none none) Q H := by
 refine Op2.slice_str (a := a) (b := x.length) ?_ ha (Nat.le_refl _) hl ?_
 ·unfold Builtin.Str.strSliceIndices
  simp only [Int.reduceLT, gt_iff_lt, if_true, Int.ofNat_lt, Int.zero_lt_one]
  rw [if_neg (by exact o219), show max 0 (min (a : Int) (x.length : Int)) = (a : Int) from by exact o220 ha]
 ·rw [List.take_of_length_le (by simp)]; exact h
theorem Op2.str_all (hl : x.length ≤ sizeLine) (h : Q (S x) H) : Op2 prog w s₀ A getItem (S x) (.slc none none none) Q H := by
 refine Op2.slice_str (a := 0) (b := x.length) ?_ (Nat.zero_le _) (Nat.le_refl _) hl ?_
 ·unfold Builtin.Str.strSliceIndices; rfl
 ·simpa using h
theorem Op2.str_but {k : Nat} (hk : 0 < k) (hk' : k ≤ x.length) (hl : x.length ≤ sizeLine) (h : Q (S (x.take (x.length - k))) H) : Op2 prog w s₀ A getItem (S x) (.slc none (some (-(k : Int))) none) Q H := by
 refine Op2.slice_str (a := 0) (b := x.length - k) ?_ (Nat.zero_le _) (by exact o221) hl ?_
 ·unfold Builtin.Str.strSliceIndices
  simp only [gt_iff_lt, Int.zero_lt_one, if_true]
  rw [if_pos (by exact o222 hk), show max 0 (min (-(k : Int) + (x.length : Int)) (x.length : Int)) = ((x.length - k : Nat) : Int) from by exact o223]
  rfl
 ·simpa using h
theorem Op2.str_at {i : Int} {c : Nat} (h1 : -(2 ^ 63) ≤ i) (h2 : i < 2 ^ 63) (hc : (seqIndex? i x.length).bind (x[·]?) = some c) (h : Q (S [c]) H) : Op2 prog w s₀ A getItem (S x) (.int i) Q H := .mk fun B Z s y z R hx hy => by
 (first | obtain ⟨_, rfl⟩ := hx.inv | cases hx); (first | obtain ⟨_, rfl⟩ := hy.inv | cases hy)
 refine P.getItem_str (by simp; exact o224 h1 h2) ?_ (PV.tok R (.str _ _) h)
 rw [length_S]
 simpa using hc
end
/-! pieces of a list -/
theorem Rvs.drop {vs : List V} {ys : List Value} (h : Rvs prog w Z vs ys) (n : Nat) : Rvs prog w Z (vs.drop n) (ys.drop n) := by
 induction vs generalizing ys n with
 | nil => (first | obtain ⟨_, rfl⟩ := h.inv | cases h); simp; exact .nil
 | cons v vs ih =>
  cases h with
  | cons _ y _ ys h r =>
   cases n with
   | zero => exact .cons _ _ _ _ h r
   | succ n => exact ih r n
theorem ints_filterMap {l : List Int} {ys : List Value} (h : Rvs prog w Z (intsV l) ys) (idx : List Nat) : Rvs prog w Z (intsV (idx.filterMap (l[·]?))) (idx.filterMap (ys[·]?)) := by
 have hlen : l.length = ys.length := by simpa [intsV] using h.length
 induction idx with
 | nil => exact .nil
 | cons i idx ih =>
  by_cases hi : i < l.length
  ·have e1 : l[i]? = some l[i] := List.getElem?_eq_getElem hi
   have e2 : ys[i]? = some ys[i] := List.getElem?_eq_getElem (hlen ▸ hi)
   rw [List.filterMap_cons_some e1, List.filterMap_cons_some e2]
   exact .cons _ _ _ _ (h.get (by simp [intsV, e1]) e2) ih
  ·have e1 : l[i]? = none := List.getElem?_eq_none (by exact o5 hi)
   have e2 : ys[i]? = none := List.getElem?_eq_none (by exact o225 hlen hi)
   rw [List.filterMap_cons_none e1, List.filterMap_cons_none e2]
   exact ih
noncomputable def cutI (l : List Int) (lo hi st : Option Int) : List Int := (sliceRange (sliceBounds lo hi st l.length).1 (sliceBounds lo hi st l.length).2.1 (sliceBounds lo hi st l.length).2.2).filterMap (l[·]?)
theorem Op2.slice_ints {l : List Int} {lo hi st : Option Int} {Q : V → Hp → Prop} (h0 : st ≠ some 0) (hl : l.length ≤ sizeLine) (h : (cutI l lo hi st).length ≤ l.length → Q (.lst (intsV (cutI l lo hi st))) H) : Op2 prog w s₀ A getItem (.lst (intsV l)) (.slc lo hi st) Q H := by
 walk_at "prog,w,s₀,H,A,l,lo,hi,st,Q|h0,hl,h"
 refine .mk ?_
 intro B Z s y z R hx hy
 walk_at "B,Z,s,y,z|R,hx,hy"
 have xq := hx.inv
 walk_at "xq,a,o,items|xq"
 obtain ⟨rfl, hz, so, hi'⟩ := xq
 have xq := hy.inv
 walk_at "xq,sl,o',vl,vu|xq"
 walk_at "xq,vs|xq"
 obtain ⟨rfl, hz', hc, hd, pl, pu, ps⟩ := xq
 have hlen : l.length = items.toArray.size := by simpa [intsV] using hi'.length
 have hsz : items.toArray.size ≤ sizeLine := by exact o9 hl hlen
 refine wpAny_getItem_list_slice (isList_of (R.kz _ _ hz) so) ⟨o', R.kz _ _ hz', hc, hd⟩ pl pu ps h0 ?_ hsz
 have hle := slicePick_size_le items.toArray lo hi st
 have hr := ints_filterMap hi' (sliceRange (sliceBounds lo hi st items.toArray.size).1 (sliceBounds lo hi st items.toArray.size).2.1 (sliceBounds lo hi st items.toArray.size).2.2)
 have e : (slicePick items.toArray lo hi st).toList = (sliceRange (sliceBounds lo hi st items.toArray.size).1 (sliceBounds lo hi st items.toArray.size).2.1 (sliceBounds lo hi st items.toArray.size).2.2).filterMap (items[·]?) := by
  unfold slicePick; simp
 rw [← e] at hr
 rw [← hlen] at hr
 change Rvs prog w Z (intsV (cutI l lo hi st)) _ at hr
 exact .newZ R (t := s.toks) (get?_size _) (fun _ _ e => Heap.get?_push_of_some _ e) (Heap.get?_push_size _ rfl) (.lst _ _ _ (slicePick items.toArray lo hi st).toList (Mem.put_self ..) ⟨0, by simp⟩ (hr.mono (Mem.le_put (R.fresh (get?_size _)).2.1 _))) (h (by
  have q := hr.length
  simp only [intsV, List.length_map, Array.length_toList] at q
  rw [q, hlen]
  exact hle))
theorem Op2.slice_list_from {a : Addr} {xs : List V} {n : Nat} {Q : V → Hp → Prop} (ha : H a = some (.list xs)) (hl : xs.length ≤ sizeLine) (h : Q (.lst (xs.drop n)) H) : Op2 prog w s₀ A getItem (.ref a) (.slc (some (n : Int)) none none) Q H := by
 walk_at "prog,w,s₀,H,A,a,xs,n,Q|ha,hl,h"
 refine .mk ?_
 intro B Z s y z R hx hy
 walk_at "B,Z,s,y,z|R,hx,hy"
 (first | obtain ⟨_, rfl⟩ := hx.inv | cases hx)
 obtain ⟨_, _, obj, hg, ⟨items, so, hi⟩, _⟩ := R.own _ _ ha
 walk_at "obj,items|hg,so,hi"
 cases hy with
 | slc sl o' _ _ _ vl vu vs hz' hc hd pl pu ps =>
 have hlen := hi.length
 refine wpAny_getItem_list_slice (isList_of hg so) ⟨o', R.kz _ _ hz', hc, hd⟩ pl pu ps (by intro e; (first | obtain ⟨_, rfl⟩ := e.inv | cases e)) ?_ (by simp; exact o9 hl hlen)
 rw [slicePick_from']
 exact .newZ R (t := s.toks) (get?_size _) (fun _ _ e => Heap.get?_push_of_some _ e) (Heap.get?_push_size _ rfl) (.lst _ _ _ (items.drop n) (Mem.put_self ..) ⟨0, rfl⟩ ((hi.drop n).mono (Mem.le_put (R.fresh (get?_size _)).2.1 _))) h
/-! list(range(..)), list(d) -/
theorem rvs_of_get {l : List Int} : ∀ {ys : List Value}, ys.length = l.length → (∀ (j : Nat) (v : Value), ys[j]? = some v → ∃ t, v = Value.int (l.getD j 0) t) → Rvs prog w Z (intsV l) ys := by
 induction l with
 | nil => intro ys hl _; cases ys with | nil => exact .nil | cons _ _ => simp at hl
 | cons i l ih =>
  intro ys hl h
  cases ys with
  | nil => simp at hl
  | cons y ys =>
   obtain ⟨t, e⟩ := h 0 y rfl
   have e' : y = .int i t := by simpa using e
   rw [e']
   refine .cons _ _ _ _ (.int i t) (ih (by simpa using hl) fun j v hj => ?_)
   have := h (j + 1) v (by simpa using hj)
   simpa using this
theorem TC.list_range {a b c : Int} {n : Nat} {Q : V → Hp → Prop} (hh : A.handled = none) (hs : Builtin.Range.small a b c = true) (hn : Builtin.Range.rangeSize a b c = n) (hl : n ≤ 2 ^ 24)
  (h : ∀ d, H d = none → Q (.ref d) (H.put d (.list (intsV ((List.range n).map fun (i : Nat) => a + (i : Int) * c))))) : TC prog w s₀ A (.raw (.type "list")) [.rng a b c] Q H := .mk fun B Z s f ys R hf hy => by
 (first | obtain ⟨_, rfl⟩ := hf.inv | cases hf)
 obtain ⟨x, rfl, hx⟩ := hy.inv1
 cases hx with
 | rng r _ _ _ t u v hz =>
 refine call_list_range hh (R.kz _ _ hz) hs hn hl fun h' tk acc' c' hk hg hit => ?_
 refine .newH R (get?_size _) R.nomods hk hg (o := .list (intsV ((List.range n).map fun (i : Nat) => a + (i : Int) * c))) ⟨acc'.toList, ⟨c', by simp⟩, rvs_of_get (by simp [hit.1]) fun j v hj => ?_⟩ (h _)
 obtain ⟨t, rfl⟩ := hit.2 j v (by simpa using hj)
 obtain ⟨hj', _⟩ := List.getElem?_eq_some_iff.mp hj
 have : j < n := by simpa [hit.1] using hj'
 exact ⟨t, by simp [this]⟩
theorem TC.list_dct {kvs : List (Int × V)} {Q : V → Hp → Prop} (hh : A.handled = none) (hl : kvs.length ≤ sizeLine) (h : Q (.lst (intsV (kvs.map (·.1)))) H) : TC prog w s₀ A (.raw (.type "list")) [.dct kvs] Q H := .mk fun B Z s f ys R hf hy => by
 (first | obtain ⟨_, rfl⟩ := hf.inv | cases hf)
 obtain ⟨x, rfl, hx⟩ := hy.inv1
 cases hx with
 | dct d o _ kvr hm hz ho hr =>
 obtain ⟨ep, hat⟩ := dictAt_of (R.kz _ _ hz) ho
 have hlen := hr.length
 refine kdl_call (kdl_dict (knd := intKind prog w) (kvs := kvr) (ep := ep) (ne_mods hm)) hh hat (by exact o9 hl hlen) fun h' tk acc' c' hk hg hit => ?_
 refine .newZ R (get?_size _) hk hg (.lst _ _ _ acc'.toList (Mem.put_self ..) ⟨c', by simp⟩ (rvs_of_get (by simp [hit.1, hlen]) fun j v hj => ?_)) h
 obtain ⟨k, x, hx, hki⟩ := hit.2 j v (by simpa using hj)
 obtain ⟨t, rfl⟩ := isInt_of hki
 refine ⟨t, ?_⟩
 obtain ⟨hj', _⟩ := List.getElem?_eq_some_iff.mp hx
 have e : kvs[j]? = some kvs[j] := List.getElem?_eq_getElem (by omega)
 obtain ⟨e1, _⟩ := hr.get (k := (kvs[j]'(by omega)).1) (v := (kvs[j]'(by omega)).2) (by rw [e]) hx
 rw [e1]
 simp [show j < kvs.length from by omega]
/-! == of lists of ints -/
theorem reads_ints {h : Heap} {l : List Int} : ∀ {ys : List Value}, Rvs prog w Z (intsV l) ys → ∃ as, ReadsAll h ys (l.map .int) as := by
 induction l with
 | nil => intro ys h; (first | obtain ⟨_, rfl⟩ := h.inv | cases h); exact ⟨_, .nil⟩
 | cons i l ih => intro ys h; cases h with | cons _ y _ ys hy hr => (first | obtain ⟨_, rfl⟩ := hy.inv | cases hy); obtain ⟨as, q⟩ := ih hr; exact ⟨_, .cons (.int _ _) q⟩
theorem canLay_ints (l : List Int) : (PyData.list (l.map .int)).canLay0 = true := by
 show PyData.canLayAll0 _ = true
 induction l with
 | nil => rfl
 | cons i l ih => simp only [List.map_cons, PyData.canLayAll0, ih, Bool.and_true]; rfl
theorem depth_ints (l : List Int) : (PyData.list (l.map .int)).depth ≤ 2 := by
 have : PyData.depthAll (l.map .int) ≤ 1 := by
  induction l with
  | nil => exact Nat.zero_le _
  | cons i l ih => simp only [List.map_cons, PyData.depthAll]; exact Nat.max_le.mpr ⟨Nat.zero_le _, ih⟩
 show PyData.depthAll _ + 1 ≤ 2
 exact o226 this
theorem eqv_ints (l l' : List Int) : PyData.eqv (.list (l.map .int)) (.list (l'.map .int)) = decide (l = l') := by
 show PyData.eqvAll _ _ = _
 induction l generalizing l' with
 | nil => (first | obtain ⟨_, rfl⟩ := l'.inv | cases l') <;> rfl
 | cons i l ih =>
  cases l' with
  | nil => rfl
  | cons j l' =>
   simp only [List.map_cons, PyData.eqvAll, ih]
   show ((i == j) && decide (l = l')) = _
   by_cases h1 : i = j <;> by_cases h2 : l = l' <;> simp [h1, h2]
section
variable {l l' : List Int} {Q : V → Hp → Prop}
theorem Op2.eq_lst (hu : A.units + 2 < cLine) (h : Q (.bool (decide (l = l'))) H) : Op2 prog w s₀ A (compareOp .Eq) (.lst (intsV l)) (.lst (intsV l')) Q H := by
 walk_at "prog,w,s₀,H,A,l,l',Q|hu,h"
 refine .mk ?_
 intro B Z s x y R hx hy
 walk_at "B,Z,s,x,y|R,hx,hy"
 cases hx with
 | lst a o _ items hz so hi =>
 cases hy with
 | lst b o' _ items' hz' so' hi' =>
 have xq := reads_ints (h := s.heap) hi
 walk_at "xq,as|xq"
 have ra := xq
 clear xq
 obtain ⟨bs, rb⟩ := reads_ints (h := s.heap) hi'
 obtain ⟨hc, _, n, hd⟩ := so.parts
 obtain ⟨hc', _, n', hd'⟩ := so'.parts
 refine SeqAt.compareEq_reads (.list (R.kz _ _ hz) hc hd (by simpa using ra)) (.list (R.kz _ _ hz') hc' hd' (by simpa using rb)) (canLay_ints _) (canLay_ints _) ?_ ?_
 ·have := depth_ints l; exact o60 hu this
 ·rw [eqv_ints]; exact .same R (.bool _) h
theorem Op2.ne_lst (hu : A.units + 2 < cLine) (h : Q (.bool (!decide (l = l'))) H) : Op2 prog w s₀ A (compareOp .NotEq) (.lst (intsV l)) (.lst (intsV l')) Q H := by
 walk_at "prog,w,s₀,H,A,l,l',Q|hu,h"
 refine .mk ?_
 intro B Z s x y R hx hy
 walk_at "B,Z,s,x,y|R,hx,hy"
 cases hx with
 | lst a o _ items hz so hi =>
 cases hy with
 | lst b o' _ items' hz' so' hi' =>
 have xq := reads_ints (h := s.heap) hi
 walk_at "xq,as|xq"
 have ra := xq
 clear xq
 obtain ⟨bs, rb⟩ := reads_ints (h := s.heap) hi'
 obtain ⟨hc, _, n, hd⟩ := so.parts
 obtain ⟨hc', _, n', hd'⟩ := so'.parts
 refine SeqAt.compareNe_reads (.list (R.kz _ _ hz) hc hd (by simpa using ra)) (.list (R.kz _ _ hz') hc' hd' (by simpa using rb)) (canLay_ints _) (canLay_ints _) ?_ ?_
 ·have := depth_ints l; exact o60 hu this
 ·rw [eqv_ints]; exact .same R (.bool _) h
end
/-! == of dicts of ints -/
noncomputable abbrev dctI (d : List (Int × Int)) : List (Int × V) := d.map fun kv => (kv.1, V.int kv.2)
noncomputable def iget (d : List (Int × Int)) (k : Int) : Option Int := (d.find? fun kv => kv.1 = k).map (·.2)
theorem dget_dctI (d : List (Int × Int)) (k : Int) : dget (dctI d) k = (iget d k).map V.int := by
 induction d with
 | nil => rfl
 | cons kv d ih =>
  by_cases hk : kv.1 = k
  ·simp [dget, iget, dctI, hk]
  ·simp only [dget, iget, dctI, List.map_cons, hk, List.find?_cons, decide_false] at ih ⊢; exact ih
noncomputable def dictEq (d e : List (Int × Int)) : Bool := d.length == e.length && d.all fun kv => iget e kv.1 == some kv.2
theorem hits_of {d e : List (Int × Int)} {kvr kvr' : List (Int × Value)} (hr : Rks prog w Z (dctI d) kvr) (hr' : Rks prog w Z (dctI e) kvr') : KeqHits A s kvr' kvr (d.all fun kv => iget e kv.1 == some kv.2) := by
 induction d generalizing kvr with
 | nil => (first | obtain ⟨_, rfl⟩ := hr.inv | cases hr); exact .nil
 | cons kv d ih =>
  cases hr with
  | cons k v x _ xs hv r =>
   rcases hr'.find kv.1 with ⟨e1, e2⟩ | ⟨v', x', e1, e2, e3⟩
   ·rw [dget_dctI] at e1
    have : iget e kv.1 = none := by cases q : iget e kv.1 with | none => rfl | some _ => rw [q] at e1; (first | obtain ⟨_, rfl⟩ := e1.inv | cases e1)
    simp only [List.all_cons, this]
    exact .miss e2
   ·rw [dget_dctI] at e1
    cases q : iget e kv.1 with
    | none => rw [q] at e1; (first | obtain ⟨_, rfl⟩ := e1.inv | cases e1)
    | some j =>
     rw [q] at e1; (first | obtain ⟨_, rfl⟩ := e1.inv | cases e1)
     simp only [List.all_cons, q]
     cases e3 with
     | int _ u =>
     cases hv with
     | int _ t =>
     have : (some j == some kv.2) = (kv.2 == j) := by
      by_cases h : j = kv.2
      ·subst h; simp
      ·rw [show (some j == some kv.2) = false from by simpa using h]; exact (beq_eq_false_iff_ne.mpr (Ne.symm h)).symm
     rw [this]
     exact .hit e2 (SeqAt.EqAt.int_int _ _ _ _) (ih r)
section
variable {d e : List (Int × Int)} {Q : V → Hp → Prop}
theorem Op2.eq_dct (hu : A.units < cLine) (h : Q (.bool (dictEq d e)) H) : Op2 prog w s₀ A (compareOp .Eq) (.dct (dctI d)) (.dct (dctI e)) Q H := by
 walk_at "prog,w,s₀,H,A,d,e,Q|hu,h"
 refine .mk ?_
 intro B Z s x y R hx hy
 walk_at "B,Z,s,x,y|R,hx,hy"
 cases hx with
 | dct a o _ kvr hm hz ho hr =>
 cases hy with
 | dct b o' _ kvr' hm' hz' ho' hr' =>
 have e1 := hr.length
 have e2 := hr'.length
 simp only [List.length_map] at e1 e2
 refine keq_eq (ne_mods hm) (ne_mods hm') (Heap.dictOf_iff.mpr ⟨o, R.kz _ _ hz, ho⟩) (Heap.dictOf_iff.mpr ⟨o', R.kz _ _ hz', ho'⟩) hu (fun _ => hits_of hr hr') ?_
 rw [← e1, ← e2]
 exact .same R (.bool _) h
theorem Op2.ne_dct (hu : A.units < cLine) (h : Q (.bool (!dictEq d e)) H) : Op2 prog w s₀ A (compareOp .NotEq) (.dct (dctI d)) (.dct (dctI e)) Q H := .mk fun B Z s x y R hx hy => by
 cases hx with
 | dct a o _ kvr hm hz ho hr =>
 cases hy with
 | dct b o' _ kvr' hm' hz' ho' hr' =>
 have e1 := hr.length
 have e2 := hr'.length
 simp only [List.length_map] at e1 e2
 refine keq_ne (ne_mods hm) (ne_mods hm') (Heap.dictOf_iff.mpr ⟨o, R.kz _ _ hz, ho⟩) (Heap.dictOf_iff.mpr ⟨o', R.kz _ _ hz', ho'⟩) hu (fun _ => hits_of hr hr') ?_
 rw [← e1, ← e2]
 exact .same R (.bool _) h
end
/-! views -/
theorem TC.values {kvs : List (Int × V)} {Q : V → Hp → Prop} (h : Q (.vals kvs) H) : TC prog w s₀ A (.raw (.builtin "dict.values")) [.dct kvs] Q H := by
 walk_at "prog,w,s₀,H,A,kvs,Q|h"
 refine .mk ?_
 intro B Z s f ys R hf hy
 walk_at "B,Z,s,f,ys|R,hf,hy"
 (first | obtain ⟨_, rfl⟩ := hf.inv | cases hf)
 have xq := hy.inv1
 walk_at "xq,x|xq"
 obtain ⟨rfl, hx⟩ := xq
 cases hx with
 | dct a o _ kvr hm hz ho hr =>
 have hD := Heap.dictOf_iff.mpr ⟨o, R.kz _ _ hz, ho⟩
 refine call_meetsIn F.slot_dict_values hD.typeIs F.entry_dict_values (F.args_dict_values_1 _) (meets_dict_values (intKind prog w) a (ne_mods hm)) ⟨⟨_, hD⟩, ?_⟩
 have l := Mem.le_put (R.fresh (get?_size s.heap)).2.1 ({ cls := .type "dict_values", data := .fields #[.ref a] } : Obj)
 exact PV.newZ R (t := s.toks) (get?_size _) (fun _ _ e => Heap.get?_push_of_some _ e) (Heap.get?_push_size _ rfl) (.vals _ a _ o kvs kvr (Mem.put_self ..) rfl rfl hm (l _ _ hz) ho (hr.mono l)) h
theorem Mem.put_comm {a b : Addr} {o o' : Obj} (h : a ≠ b) : (B.put a o).put b o' = (B.put b o').put a o := by
 funext c
 unfold Mem.put
 by_cases h1 : c = a
 ·subst h1; simp [h]
 ·simp [h1]
theorem RepF.guard (R : RepF prog w s₀ fs B Z env m H s) {I : Addr} {obj : Obj} (hI : s.heap.get? I = some obj) (hB : B I = none) (hZ : Z I = none) (hH : H I = none) (hf : ¬ frameAt env I) :
  RepF prog w s₀ fs (B.put I obj) Z env m H s := by
 walk_at "prog,w,s₀,s,fs,B,Z,H,env,m,I,obj|R,hI,hB,hZ,hH,hf"
 have up : ∀ {a o}, B a = some o → B.put I obj a = some o := fun {a o} e => by
  have : a ≠ I := fun h => by subst h; rw [hB] at e; (first | obtain ⟨_, rfl⟩ := e.inv | cases e)
  unfold Mem.put; rw [if_neg this]; exact e
 have no : ∀ {a}, B a = none → a ≠ I → B.put I obj a = none := fun {a} e h => by unfold Mem.put; rw [if_neg h]; exact e
 refine ⟨?_, ?_⟩
 ·exact {
   kb := fun a o e => by
    unfold Mem.put at e
    by_cases h : a = I
    ·rw [if_pos h] at e; (first | obtain ⟨_, rfl⟩ := e.inv | cases e); subst h; exact ⟨_, hI, .refl _⟩
    ·rw [if_neg h] at e; exact R.r.kb a o e
   fr := R.r.fr
   kz := R.r.kz
   dj := fun a o e => by
    unfold Mem.put at e
    by_cases h : a = I
    ·subst h; exact hZ
    ·rw [if_neg h] at e; exact R.r.dj a o e
   own := fun a o e => let ⟨x, y⟩ := R.r.own a o e; ⟨no x (fun h => by subst h; rw [hH] at e; (first | obtain ⟨_, rfl⟩ := e.inv | cases e)), y⟩
   z0 := R.r.z0
   gens := R.r.gens
   os := R.r.os
   lim := R.r.lim }
 ·exact {
   ns := R.f.ns
   lb := no R.f.lb (fun h => hf (.inl h.symm))
   lz := R.f.lz
   lh := R.f.lh
   cell := fun x hx => by
    obtain ⟨c, a1, a8⟩ := R.f.cell x hx
    refine ⟨c, a1, ?_⟩
    rcases a8 with ⟨hlt, ov, a2, a3, a4, a5⟩ | ⟨hn, o, hb, a3⟩
    ·exact .inl ⟨hlt, ov, a2, a3, no a4 (fun h => hf (.inr ⟨h ▸ hlt, x, hx, h ▸ a1⟩)), a5⟩
    ·exact .inr ⟨hn, o, up hb, a3⟩
   apart := R.f.apart
   free := fun x v hx hv => let ⟨c, o, val, a1, a2, a3⟩ := R.f.free x v hx hv; ⟨c, o, val, a1, up a2, a3⟩ }
theorem Rep.drop {I : Addr} {obj : Obj} (R : Rep prog w s₀ fs (B.put I obj) Z H s) {h' : Heap} {t : Nat} (hfs : I ∉ fs) (hB : B I = none) (hs : ∀ b o, b ≠ I → s.heap.get? b = some o → h'.get? b = some o) : Rep prog w s₀ fs B Z H { s with heap := h', toks := t } := by
 have hI : B.put I obj I = some obj := Mem.put_self ..
 have hZ : Z I = none := R.dj I obj hI
 have hB' : ∀ {a o}, B a = some o → B.put I obj a = some o ∧ a ≠ I := fun {a o} e => by
  have : a ≠ I := fun h => by subst h; rw [hB] at e; (first | obtain ⟨_, rfl⟩ := e.inv | cases e)
  exact ⟨by unfold Mem.put; rw [if_neg this]; exact e, this⟩
 have hN : ∀ {a}, B.put I obj a = none → B a = none ∧ a ≠ I := fun {a} e => by
  have : a ≠ I := fun h => by subst h; rw [hI] at e; (first | obtain ⟨_, rfl⟩ := e.inv | cases e)
  exact ⟨by unfold Mem.put at e; rw [if_neg this] at e; exact e, this⟩
 exact {
  kb := fun a o e => let ⟨o', g, q⟩ := R.kb a o (hB' e).1; ⟨o', hs _ _ (hB' e).2 g, q⟩
  fr := fun L e => let ⟨x, y, o', es, n, g, d⟩ := R.fr L e; ⟨x, y, o', es, n, hs _ _ (fun h => hfs (h ▸ e)) g, d⟩
  kz := fun a o e => hs _ _ (fun h => by subst h; rw [hZ] at e; (first | obtain ⟨_, rfl⟩ := e.inv | cases e)) (R.kz a o e)
  dj := fun a o e => R.dj a o (hB' e).1
  own := fun a o e => by
   obtain ⟨x, y, ob, z, u⟩ := R.own a o e
   exact ⟨(hN x).1, y, ob, hs _ _ (hN x).2 z, u⟩
  z0 := R.z0
  gens := R.gens
  os := R.os
  lim := R.lim }
theorem Rep.work {I : Addr} {obj : Obj} {o : O} (R : Rep prog w s₀ fs (B.put I obj) Z H s) (hfs : I ∉ fs) (hnd : ∀ es n, obj.data ≠ .dict es n) (hB : B I = none) (ho : OIs prog w Z o obj) (hm : I ≠ sysModules) : H I = none ∧ Rep prog w s₀ fs B Z (H.put I o) s := by
 have hI : B.put I obj I = some obj := Mem.put_self ..
 have hH : H I = none := by
  cases e : H I with
  | none => rfl
  | some q => have := (R.own _ _ e).1; rw [hI] at this; (first | obtain ⟨_, rfl⟩ := this.inv | cases this)
 have R' := R.drop (h' := s.heap) (t := s.toks) hfs hB (fun _ _ _ e => e)
 refine ⟨hH, ?_⟩
 exact {
  kb := R'.kb
  fr := fun L e => let ⟨x, y, z⟩ := R'.fr L e; ⟨by unfold Hp.put; rw [if_neg (fun h : L = I => hfs (h ▸ e))]; exact x, y, z⟩
  kz := R'.kz
  dj := R'.dj
  own := fun a q e => by
   unfold Hp.put at e
   by_cases h : a = I
   ·rw [if_pos h] at e; (first | obtain ⟨_, rfl⟩ := e.inv | cases e); subst h
    obtain ⟨o', g, q⟩ := R.kb _ _ hI
    rw [q.exact hnd] at g
    exact ⟨hB, R.dj _ _ hI, obj, g, ho, hm⟩
   ·rw [if_neg h] at e; exact R'.own a q e
  z0 := R'.z0
  gens := R'.gens
  os := R'.os
  lim := R'.lim }

/-! the names that a comprehension reads from outside -/
noncomputable def capt (scope : Scope) (m : Loc) : Loc := fun y => if scope.names.lookup y = some .free then m y else none
noncomputable def closeOver (env : Env) : List (Str × NameKind) → List (Str × Addr) → List (Str × Addr)
 | [], acc => acc
 | (n, k) :: r, acc => closeOver env r (if k == .free then (n, (env.cells.lookup n).getD 0) :: acc else acc)
theorem closureFor_eq {scope : Scope} (h : ∀ n, (n, NameKind.free) ∈ scope.names → ∃ c, env.cells.lookup n = some c) : closureFor scope env = pure (closeOver env scope.names []) := by
 walk_at "env,scope|h"
 unfold closureFor
 have key : ∀ (names : List (Str × NameKind)) (acc : List (Str × Addr)), (∀ n, (n, NameKind.free) ∈ names → ∃ c, env.cells.lookup n = some c) →
   (forIn names acc fun x (r : List (Str × Addr)) => match x with | (name, kind) => if (kind == .free) = true then do let a ← cellOf env name; pure (ForInStep.yield ((name, a) :: r)) else pure (ForInStep.yield r)) = (pure (closeOver env names acc) : Sem (List (Str × Addr))) := by
  intro names
  walk_at "names|"
  induction names with
  | nil => intro acc _; rfl
  | cons x r ih =>
   walk_at "x,r|ih"
   obtain ⟨n, k⟩ := x
   walk_at "n,k|"
   intro acc h
   walk_at "acc|"
   rw [List.forIn_cons]
   have hr : ∀ n, (n, NameKind.free) ∈ r → ∃ c, env.cells.lookup n = some c := fun n hn => h n (List.mem_cons_of_mem _ hn)
   by_cases hk : (k == NameKind.free) = true
   ·have hk' : k = .free := by simpa using hk
    obtain ⟨c, hc⟩ := h n (by rw [hk']; exact List.mem_cons_self)
    have hco : cellOf env n = pure c := by unfold cellOf; rw [hc]
    simp only [hk, if_true, hco, closeOver, hc, Option.getD_some, pure_bind]
    exact ih _ hr
   ·simp only [hk, if_false, closeOver, pure_bind]
    exact ih _ hr
 exact (congrArg (fun t : Sem (List (Str × Addr)) => t >>= fun r => pure r) (key scope.names [] h)).trans (pure_bind _ _)
theorem closeOver_lookup : ∀ (names : List (Str × NameKind)) (acc : List (Str × Addr)) (n : Str), (closeOver env names acc).lookup n = if (n, NameKind.free) ∈ names then some ((env.cells.lookup n).getD 0) else acc.lookup n := by
 intro xs0
 induction xs0 with
 | nil => exact fun acc n => by simp [closeOver]
 | cons nk r ih =>
  obtain ⟨n', k⟩ := nk
  intro acc n
  rw [closeOver, ih]
  by_cases h : (n, NameKind.free) ∈ r
  ·rw [if_pos h, if_pos (List.mem_cons_of_mem _ h)]
  ·rw [if_neg h]
   by_cases hk : k = .free
   ·subst hk
    by_cases hn : n = n'
    ·subst hn; simp
    ·have : (n == n') = false := by simpa using hn
     simp [h, hn, List.lookup_cons, this]
   ·have hk' : (k == NameKind.free) = false := by simpa using hk
    have : ¬ (n, NameKind.free) ∈ (n', k) :: r := fun hm => by
     rcases List.mem_cons.mp hm with e | e
     ·exact hk (Prod.mk.inj e).2.symm
     ·exact h e
    rw [if_neg this]; simp [hk']
theorem cellsFrom_append : ∀ (names : List (Str × NameKind)) (n : Nat) (acc : List (Str × Addr)), cellsFrom n names acc = cellsFrom n names [] ++ acc
 | [], _, _ => rfl
 | (x, k) :: r, n, acc => by
  unfold cellsFrom
  split
  ·rw [cellsFrom_append r, cellsFrom_append r _ [(x, n)]]; simp
  ·exact cellsFrom_append r n acc
theorem cellsFrom_mem : ∀ (names : List (Str × NameKind)) (n : Nat) (x : Str), ((cellsFrom n names []).lookup x).isSome = true ↔ (x, NameKind.cell) ∈ names
 | [], _, _ => by simp [cellsFrom]
 | (y, k) :: r, n, x => by
  unfold cellsFrom
  by_cases hk : (k == NameKind.cell) = true
  ·have hk' : k = .cell := by simpa using hk
   subst hk'
   rw [if_pos hk, cellsFrom_append, List.lookup_append]
   have ih := cellsFrom_mem r (n + 1) x
   by_cases hx : x = y
   ·subst hx; simp
   ·have : (x == y) = false := by simpa using hx
    simp [List.lookup_cons, this, ih, hx]
  ·rw [if_neg hk, cellsFrom_mem r n x]
   have hk' : ¬ k = .cell := by simpa using hk
   constructor
   ·exact List.mem_cons_of_mem _
   ·intro h
    rcases List.mem_cons.mp h with e | e
    ·exact (hk' (Prod.mk.inj e).2.symm).elim
    ·exact e
theorem lookup_of_mem {α : Type} : ∀ {l : List (Str × α)} {n : Str} {c : α}, (l.map Prod.fst).Nodup → (n, c) ∈ l → l.lookup n = some c
 | (k, v) :: r, n, c, nd, h => by
  rw [List.map_cons, List.nodup_cons] at nd
  rw [List.lookup_cons]
  rcases List.mem_cons.mp h with e | e
  ·(first | obtain ⟨_, rfl⟩ := e.inv | cases e); simp
  ·have : n ≠ k := fun hh => nd.1 (by subst hh; exact List.mem_map.mpr ⟨_, e, rfl⟩)
   have hb : (n == k) = false := by simpa using this
   rw [hb]; exact lookup_of_mem nd.2 e
theorem lookup_relabel {P : Str → NameKind → Bool} : ∀ (l : List (Str × NameKind)) (x : Str), (l.map fun (n, k) => if P n k = true then (n, NameKind.cell) else (n, k)).lookup x = (l.lookup x).map fun k => if P x k = true then .cell else k := by
 intro xs0
 induction xs0 with
 | nil => exact fun _ => rfl
 | cons nk r ih =>
  obtain ⟨n, k⟩ := nk
  intro x
  have ih := ih x
  rw [List.map_cons]
  show List.lookup x ((if P n k = true then (n, NameKind.cell) else (n, k)) :: _) = _
  by_cases hx : x = n
  ·subst hx
   by_cases hc : P x k = true
   ·rw [if_pos hc]; simp [List.lookup_cons, hc]
   ·rw [if_neg hc]; simp [List.lookup_cons, hc]
  ·have hb : (x == n) = false := by simpa using hx
   have e : ∀ k' : NameKind, List.lookup x ((n, k') :: r) = List.lookup x r := fun k' => by rw [List.lookup_cons, hb]
   rw [e k, ← ih]
   by_cases hc : P n k = true
   ·rw [if_pos hc, List.lookup_cons, hb]
   ·rw [if_neg hc, List.lookup_cons, hb]
theorem relabel_lookup (scope : Scope) (x : Str) : (relabel scope env).names.lookup x = (scope.names.lookup x).map fun k => if (k == .free && env.scope.kind == .function && env.kindOf x == some .cell) = true then .cell else k :=
 lookup_relabel (P := fun n k => k == .free && env.scope.kind == .function && env.kindOf n == some .cell) scope.names x
noncomputable def cenvOf (scope : Scope) (env : Env) (C : Addr) : Env :=
 { scope := relabel scope env, locals := C, globals := env.globals, cells := cellsFrom (C + 1) scope.names (closeOver env scope.names []), qual := env.qual, func := none, code := env.code, frame := env.frame, builtins := env.builtins }
theorem wp_compEnv {scope : Scope} {Q : Env → Shared → Prop} {M : Model} {E : Value → Shared → Prop} {cl : List (Str × Addr)}
  (h : Q (newEnv scope s.heap.objs.size env.globals (cellsFrom (s.heap.objs.size + 1) scope.names cl) env.qual none .none (some env) builtinsNs)
   { s with heap := pushCells (s.heap.push { cls := .type "dict", data := .dict #[] }) scope.names }) :
  wpAny M A (newFunctionEnv scope env.globals cl [] env.qual none .none (some env)) Q E s := by
 simp only [newFunctionEnv, Option.isSome_some, if_true]
 refine wpAny_bind (wpAny_alloc ?_)
 refine wpAny_bind (wpAny_layCells _ (fun name kind cells => by cases hkc : kind == NameKind.cell <;> simp [hkc]) _ _ _ _ ?_)
 rw [show ({ s with heap := s.heap.push { cls := .type "dict", data := .dict #[] } } : Shared).heap.objs.size = s.heap.objs.size + 1 from Heap.size_push ..]
 rw [List.forIn_nil]
 exact wpAny_bind (wpAny_pure (wpAny_pure h))
noncomputable def Reads (scope : Scope) (env : Env) (m : Loc) : Prop := ∀ n, scope.names.lookup n = some .free → (env.kindOf n = some .cell ∨ env.kindOf n = some .free) ∧ ∃ v, m n = some v
set_option tactic.hygienic true in
theorem Reads.cells {scope : Scope} (h : Reads scope env m) (R : RepF prog w s₀ fs B Z env m H s) {n : Str} (hn : scope.names.lookup n = some .free) : ∃ c o, env.cells.lookup n = some c ∧ Bx B env s.heap c = some o ∧ c < s.heap.objs.size ∧ (∃ ov, o.data = .cell ov) ∧ ∀ v, m n = some v → ∃ val, o.data = .cell (some val) ∧ Rv prog w Z v val := by
 walk_at "prog,w,s₀,s,fs,B,Z,H,env,m,scope,n|h,R,hn"
 obtain ⟨hk, v, hv⟩ := h n hn
 walk_at "v|hv"
 have bx : ∀ c o, B c = some o → Bx B env s.heap c = some o := fun c o e => by
  walk_at "c,o|e"
  unfold Bx; split
  ·rename_i hf; rw [(R.f.at hf).1] at e; (first | obtain ⟨_, rfl⟩ := e.inv | cases e)
  ·exact e
 rcases hk with hk | hk
 ·have xq := R.f.cell n hk
  walk_at "xq,c|xq"
  obtain ⟨a1, a8⟩ := xq
  rcases a8 with ⟨hlt, ov, ⟨o, ho, hd⟩, a3, a4, a5⟩ | ⟨hn', o, hb, hq, a3⟩
  ·refine ⟨c, o, a1, ?_, Heap.lt_size ho, ⟨ov, hd⟩, fun v' e => ?_⟩
   ·unfold Bx; rw [if_pos (.inr ⟨hlt, n, hk, a1⟩)]; exact ho
   ·obtain ⟨val, rfl, hr⟩ := a3 v' e
    exact ⟨val, hd, hr⟩
  ·exact ⟨c, o, a1, bx _ _ hb, Heap.lt_size (R.r.kb _ _ hb).choose_spec.1, hq, a3⟩
 ·obtain ⟨c, o, val, a1, a2, a3, a4⟩ := R.f.free n v hk hv
  refine ⟨c, o, a1, bx _ _ a2, Heap.lt_size (R.r.kb _ _ a2).choose_spec.1, ⟨_, a3⟩, fun v' e => ?_⟩
  rw [hv] at e; (first | obtain ⟨_, rfl⟩ := e.inv | cases e)
  exact ⟨val, a3, a4⟩
set_option tactic.hygienic true in
theorem comp_frame {scope : Scope} (hE : EnvOk env) (nd : (scope.names.map Prod.fst).Nodup) (R : RepF prog w s₀ fs B Z env m H s) (hr : Reads scope env m) {h3 : Heap} {t : Nat} (hk : ∀ b o, s.heap.get? b = some o → h3.get? b = some o) :
  RepF prog w s₀ fs (Bx B env s.heap) Z (cenvOf scope env h3.objs.size) (capt scope m) H { s with heap := pushCells (h3.push { cls := .type "dict", data := .dict #[] }) scope.names, toks := t } := by
 walk_at "prog,w,s₀,s,fs,B,Z,H,env,m,scope,h3,t|hE,nd,R,hr,hk"
 have hpush : ∀ b o, h3.get? b = some o → (pushCells (h3.push { cls := .type "dict", data := .dict #[] }) scope.names).get? b = some o := fun b o e => pushCells_keeps _ _ b o (Heap.get?_push_of_some _ e)
 have hk4 : ∀ b o, s.heap.get? b = some o → (pushCells (h3.push { cls := .type "dict", data := .dict #[] }) scope.names).get? b = some o := fun b o e => hpush b o (hk b o e)
 have R3 : Rep prog w s₀ fs (Bx B env s.heap) Z H { s with heap := h3, toks := t } := R.enter.keeps hk
 have fresh : ∀ a, h3.objs.size ≤ a → Bx B env s.heap a = none ∧ Z a = none ∧ H a = none := fun a ha => R3.fresh (by
  cases e : h3.get? a with
  | none => rfl
  | some o => exact absurd (Heap.lt_size e) (Nat.not_lt.mpr ha))
 have ok := cellsFrom_ok scope.names (h3.push { cls := .type "dict", data := .dict #[] }) (h3.objs.size + 1) [] ⟨fun _ _ hm => (nomatch hm), List.Pairwise.nil⟩ (by rw [Heap.size_push]; exact Nat.le_refl _)
 rw [Heap.size_push] at ok
 have lk : ∀ x, (cenvOf scope env h3.objs.size).cells.lookup x = ((cellsFrom (h3.objs.size + 1) scope.names []).lookup x).or ((closeOver env scope.names []).lookup x) := fun x => by
  walk_at "x|"
  show (cellsFrom _ _ _).lookup x = _
  rw [cellsFrom_append, List.lookup_append]
 have kind : ∀ x, (cenvOf scope env h3.objs.size).kindOf x = (scope.names.lookup x).map fun k => if (k == .free && env.scope.kind == .function && env.kindOf x == some .cell) = true then .cell else k := fun x => relabel_lookup scope x
 have own : ∀ x, scope.names.lookup x = some .cell → ∃ c, (cenvOf scope env h3.objs.size).cells.lookup x = some c ∧ (x, c) ∈ cellsFrom (h3.objs.size + 1) scope.names [] ∧ h3.objs.size < c := fun x hx => by
  walk_at "x|hx"
  obtain ⟨c, hc⟩ := Option.isSome_iff_exists.mp ((cellsFrom_mem scope.names (h3.objs.size + 1) x).mpr (mem_of_lookup hx))
  exact ⟨c, by rw [lk, hc]; rfl, mem_of_lookup hc, (ok.empty x c (mem_of_lookup hc)).2⟩
 have fr : ∀ x, scope.names.lookup x = some .free → (cenvOf scope env h3.objs.size).cells.lookup x = env.cells.lookup x := fun x hx => by
  walk_at "x|hx"
  have h1 : (cellsFrom (h3.objs.size + 1) scope.names []).lookup x = none := by
   cases e : (cellsFrom (h3.objs.size + 1) scope.names []).lookup x with
   | none => rfl
   | some c =>
    have := (cellsFrom_mem scope.names (h3.objs.size + 1) x).mp (by rw [e]; rfl)
    rw [lookup_of_mem nd this] at hx; (first | obtain ⟨_, rfl⟩ := hx.inv | cases hx)
  rw [lk, h1, closeOver_lookup, if_pos (mem_of_lookup hx)]
  obtain ⟨c, o, hc, _⟩ := hr.cells R hx
  rw [hc]; rfl
 refine ⟨R.enter.keeps hk4, ?_⟩
 exact {
  ns := ⟨_, (Heap.Ns.new h3 (.type "dict")).keeps (pushCells_keeps _ _), fun x v hx hv => by
   walk_at "x,v|hx,hv"
   rw [kind] at hx
   unfold capt at hv
   by_cases hf : scope.names.lookup x = some .free
   ·rw [hf] at hx
    simp only [Option.map_some] at hx
    split at hx <;> (first | obtain ⟨_, rfl⟩ := hx.inv | cases hx)
   ·rw [if_neg hf] at hv; (first | obtain ⟨_, rfl⟩ := hv.inv | cases hv)⟩
  lb := (fresh _ (Nat.le_refl _)).1
  lz := (fresh _ (Nat.le_refl _)).2.1
  lh := (fresh _ (Nat.le_refl _)).2.2
  cell := fun x hx => by
   walk_at "x|hx"
   rw [kind] at hx
   cases hn : scope.names.lookup x with
   | none => rw [hn] at hx; (first | obtain ⟨_, rfl⟩ := hx.inv | cases hx)
   | some k =>
    walk_at "k|hn"
    rw [hn] at hx
    simp only [Option.map_some, Option.some.injEq] at hx
    split at hx
    ·rename_i hc
     simp only [Bool.and_eq_true, beq_iff_eq] at hc
     have hkf : k = .free := hc.1.1
     subst hkf
     obtain ⟨c, o, h1, h2, h3', h4, h5⟩ := hr.cells R hn
     refine ⟨c, (fr x hn).trans h1, .inr ⟨?_, o, h2, h4, fun v hv => ?_⟩⟩
     ·have := Heap.lt_size (hk _ _ (R.enter.kb _ _ h2).choose_spec.1)
      exact fun hlt => Nat.lt_asymm this hlt
     ·unfold capt at hv; rw [if_pos hn] at hv; exact h5 v hv
    ·subst hx
     obtain ⟨c, h1, h2, h3'⟩ := own x hn
     have f := fresh c (Nat.le_of_lt h3')
     refine ⟨c, h1, .inl ⟨h3', none, (ok.empty x c h2).1, fun v hv => ?_, f.1, f.2.1, f.2.2⟩⟩
     unfold capt at hv; rw [if_neg (by rw [hn]; intro h; (first | obtain ⟨_, rfl⟩ := h.inv | cases h))] at hv; (first | obtain ⟨_, rfl⟩ := hv.inv | cases hv)
  apart := fun x y c hx hy hlt h1 h2 => by
   walk_at "x,y,c|hx,hy,hlt,h1,h2"
   have isown : ∀ x, (cenvOf scope env h3.objs.size).kindOf x = some .cell → (cenvOf scope env h3.objs.size).cells.lookup x = some c → (x, c) ∈ cellsFrom (h3.objs.size + 1) scope.names [] := fun x hx h1 => by
    walk_at "x|hx,h1"
    rw [kind] at hx
    cases hn : scope.names.lookup x with
    | none => rw [hn] at hx; (first | obtain ⟨_, rfl⟩ := hx.inv | cases hx)
    | some k =>
     walk_at "k|hn"
     rw [hn] at hx
     simp only [Option.map_some, Option.some.injEq] at hx
     split at hx
     ·rename_i hc
      simp only [Bool.and_eq_true, beq_iff_eq] at hc
      have hkf : k = .free := hc.1.1
      subst hkf
      obtain ⟨c', o, e1, e2, e3', e4, e5⟩ := hr.cells R hn
      rw [fr x hn, e1] at h1; (first | obtain ⟨_, rfl⟩ := h1.inv | cases h1)
      have := Heap.lt_size (hk _ _ (R.enter.kb _ _ e2).choose_spec.1)
      exact (Nat.lt_asymm this hlt).elim
     ·subst hx
      obtain ⟨c', e1, e2, e3'⟩ := own x hn
      rw [e1] at h1; (first | obtain ⟨_, rfl⟩ := h1.inv | cases h1)
      exact e2
   exact name_of_addr ok.apart (isown x hx h1) (isown y hy h2)
  free := fun x v hx hv => by
   walk_at "x,v|hx,hv"
   rw [kind] at hx
   cases hn : scope.names.lookup x with
   | none => rw [hn] at hx; (first | obtain ⟨_, rfl⟩ := hx.inv | cases hx)
   | some k =>
    walk_at "k|hn"
    rw [hn] at hx
    simp only [Option.map_some, Option.some.injEq] at hx
    split at hx
    ·(first | obtain ⟨_, rfl⟩ := hx.inv | cases hx)
    ·subst hx
     obtain ⟨c, o, h1, h2, h3', h4, h5⟩ := hr.cells R hn
     unfold capt at hv; rw [if_pos hn] at hv
     obtain ⟨val, e1, e2⟩ := h5 v hv
     exact ⟨c, o, val, (fr x hn).trans h1, h2, e1, e2⟩ }
structure TIfs (prog : Program) (w : World) (s₀ : Shared) (A : Around) (env : Env) (cs : List Expr) (Q : Bool → Loc → Hp → Prop) (m : Loc) (H : Hp) : Prop where
 run : ∀ B Z s, RepF prog w s₀ (frs A) B Z env m H s → wpAny (model prog w) A (forIn cs true fun c r => if r = true then do let ok ← isTrue c env (eval c env); pure (ForInStep.yield ok) else pure (ForInStep.yield r)) (PF prog w s₀ (frs A) B Z env Q) NoE s
theorem TIfs.nil {Q : Bool → Loc → Hp → Prop} (h : Q true m H) : TIfs prog w s₀ A env [] Q m H := .mk fun B Z s R => by
 rw [List.forIn_nil]; exact wpAny_pure ⟨m, H, Z, Mem.Le.refl _, R, h⟩
theorem ifs_false {cs : List Expr} : (forIn cs false fun c r => if r = true then do let ok ← isTrue c env (eval c env); pure (ForInStep.yield ok) else pure (ForInStep.yield r)) = (pure false : Sem Bool) := by
 induction cs with
 | nil => rfl
 | cons c r ih =>
  rw [List.forIn_cons]
  simp only [Bool.false_eq_true, if_false, pure_bind]
  exact ih
theorem TIfs.cons {c : Expr} {cs : List Expr} {Q : Bool → Loc → Hp → Prop} (h : TB prog w s₀ A env c (fun b m1 H1 => if b = true then TIfs prog w s₀ A env cs Q m1 H1 else Q false m1 H1) m H) : TIfs prog w s₀ A env (c :: cs) Q m H := by
 walk_at "prog,w,s₀,H,env,m,A,c,cs,Q|h"
 refine .mk ?_
 intro B Z s R
 walk_at "B,Z,s|R"
 rw [List.forIn_cons]
 simp only [if_true]
 refine wpAny_bind (wpAny_bind (wpAny_mono (h.run B Z s R) ?_ (fun _ _ x => x.elim)))
 rintro b s1 ⟨m1, H1, Z1, l1, R1, h1⟩
 walk_at "b,s1,m1,H1,Z1|l1,R1,h1"
 refine wpAny_pure ?_
 cases b with
 | true =>
  refine wpAny_mono (h1.run B Z1 s1 R1) ?_ (fun _ _ x => x.elim)
  rintro b s2 ⟨m2, H2, Z2, l2, R2, h2⟩
  exact ⟨m2, H2, Z2, l1.trans l2, R2, h2⟩
 | false =>
  dsimp only
  rw [ifs_false]
  exact wpAny_pure ⟨m1, H1, Z1, l1, R1, h1⟩
theorem RepF.lessH (R : RepF prog w s₀ fs B Z env m H s) {H' : Hp} (h : ∀ a o, H' a = some o → H a = some o) : RepF prog w s₀ fs B Z env m H' s := by
 have nn : ∀ {a}, H a = none → H' a = none := fun {a} e => by
  cases e' : H' a with
  | none => rfl
  | some o => rw [h a o e'] at e; (first | obtain ⟨_, rfl⟩ := e.inv | cases e)
 refine ⟨R.r.less h, ?_⟩
 exact {
  ns := R.f.ns
  lb := R.f.lb
  lz := R.f.lz
  lh := nn R.f.lh
  cell := fun x hx => by
   obtain ⟨c, a1, a8⟩ := R.f.cell x hx
   refine ⟨c, a1, ?_⟩
   rcases a8 with ⟨hlt, ov, a2, a3, a4, a5, a6⟩ | a8
   ·exact .inl ⟨hlt, ov, a2, a3, a4, a5, nn a6⟩
   ·exact .inr a8
  apart := R.f.apart
  free := R.f.free }
noncomputable def Stay (mi : Loc) (H1 : Hp) (m : Loc) (H : Hp) : Prop := (∀ y v, mi y = some v → m y = some v) ∧ (∀ a o, H1 a = some o → H a = some o)

theorem EnvOk.comp {scope : Scope} {C : Addr} (hE : EnvOk env) (hk : scope.kind = .function) : EnvOk (cenvOf scope env C) := ⟨hk, hE.globals, hE.builtins⟩

theorem comp_core {elt iter : Expr} {tx : Str} {tp : Pos} {ifs : List Expr} {scope : Scope} {pos cpos : Pos} {use : Option (Value → Sem Unit)} {Qs : Value → Shared → Prop} {F : Loc → Hp → List V → Prop}
  (hE : EnvOk env) (hk : scope.kind = .function) (nd : (scope.names.map Prod.fst).Nodup) (hs : ∀ x, foldedSetIterable iter env x = pure x) (hr0 : Reads scope env m)
  (h : TE prog w s₀ A env iter (fun v m1 H1 => ∃ xs f, OpIt prog w s₀ A (.Name tx tp) v xs H1 ∧ xs.length ≤ sizeLine ∧ Reads scope env m1 ∧
   (∀ (C : Addr) (i : Nat) x, xs[i]? = some x → TA prog w s₀ A (cenvOf scope env C) (.Name tx tp) x (fun m2 H2 => TIfs prog w s₀ A (cenvOf scope env C) ifs (fun ok m3 H3 =>
    if ok = true then TE prog w s₀ A (cenvOf scope env C) elt (fun v m4 H4 => f x = some v ∧ Stay (capt scope m1) H1 m4 H4) m3 H3 else f x = none ∧ Stay (capt scope m1) H1 m3 H3) m2 H2) (capt scope m1) H1) ∧
   F m1 H1 (xs.filterMap f)) m H)
  (R : RepF prog w s₀ (frs A) B Z env m H s)
  (hQ : ∀ Z2 D C cobj m1 H1 vs s', Mem.Le Z Z2 → F m1 H1 vs → C ∉ frs A → B C = none → (∀ v, cobj.data ≠ .cell v) → (∃ mr, s'.heap.Ns C mr) → H1 D = none → RepF prog w s₀ (frs A) (B.put C cobj) Z2 env m1 (H1.put D (.list vs)) s' →
   compPost (model prog w) A NoE use Qs (.ref D) C (.ok .next) s') :
  wpAny (model prog w) A (comprehension (.ListComp elt [⟨.Name tx tp, iter, ifs, 0⟩] scope pos) scope env cpos (newList []) false (eval iter env) use) Qs NoE s := by
 walk_at "prog,w,s₀,s,B,Z,H,env,m,A,elt,iter,tx,tp,ifs,scope,pos,cpos,use,Qs,F|hE,hk,nd,hs,hr0,h,R,hQ"
 refine wpAny_comprehension_free (g := ⟨.Name tx tp, iter, ifs, 0⟩) (gs := []) rfl hs (closureFor_eq fun n hn => ?_) hk (fun x hx hl => ?_) (wpAny_mono (h.run B Z s R) ?_ (fun _ _ x => x))
 ·obtain ⟨c, o, hc, _⟩ := hr0.cells R (lookup_of_mem nd hn)
  exact ⟨c, hc⟩
 ·obtain ⟨n, k⟩ := x
  (first | obtain ⟨_, rfl⟩ := hl.inv | cases hl)
  exact lookup_of_mem nd hx
 rintro x s1 xq
 walk_at "x,s1|xq"
 obtain ⟨v, m1, H1, Z1, l1, R1, v1, xq⟩ := xq
 walk_at "v,m1,H1,Z1|l1,R1,v1,xq"
 walk_at "xq,xs,f|xq"
 obtain ⟨hit, hlen, hr, hbody, hF⟩ := xq
 refine hit.run _ Z1 s1 x R1.enter v1 _ ?_
 rintro I h' t obj hnone hk' hn xq
 walk_at "I,h',t,obj|hnone,hk',hn,xq"
 walk_at "xq,fp,P,St|xq"
 obtain ⟨W, hfp, hP, hSt, hcell, hlet⟩ := xq
 refine wpAny_newList ?_ (by simp)
 refine wp_compEnv ?_
 dsimp only
 generalize hB1 : Bx B env s1.heap = B1 at *
 have hkD : ∀ b o, s1.heap.get? b = some o → (h'.push { cls := .type "list", data := .seq ([] : List Value).toArray }).get? b = some o := fun b o e => Heap.get?_push_of_some _ (hk' b o e)
 have RC := comp_frame (scope := scope) hE nd R1 hr (h3 := h'.push { cls := .type "list", data := .seq ([] : List Value).toArray }) (t := t) hkD
 rw [hB1] at RC
 generalize hH4 : pushCells ((h'.push { cls := .type "list", data := .seq ([] : List Value).toArray }).push { cls := .type "dict", data := .dict #[] }) scope.names = h4 at RC ⊢
 have e4 : ∀ b o, (h'.push { cls := .type "list", data := .seq ([] : List Value).toArray }).get? b = some o → h4.get? b = some o := fun b o e => by
  rw [← hH4]; exact pushCells_keeps _ _ b o (Heap.get?_push_of_some _ e)
 generalize hC : (h'.push { cls := .type "list", data := .seq ([] : List Value).toArray }).objs.size = C at RC ⊢
 have hDC : h'.objs.size < C := by rw [← hC, Heap.size_push]; exact Nat.lt_succ_self _
 have gD : h4.get? h'.objs.size = some { cls := .type "list", data := .seq ([] : List Value).toArray } := e4 _ _ (Heap.get?_push_size _ rfl)
 have gI : h4.get? I = some obj := e4 _ _ (Heap.get?_push_of_some _ hn)
 have hID : I < h'.objs.size := Heap.lt_size hn
 have R1e : Rep prog w s₀ (frs A) B1 Z1 H1 s1 := hB1 ▸ R1.enter
 have fI := R1e.fresh hnone
 have hfsI := R1e.notfs hnone
 have nD : s1.heap.get? h'.objs.size = none := by
  cases e : s1.heap.get? h'.objs.size with
  | none => rfl
  | some o => exact absurd (Heap.lt_size (hk' _ _ e)) (Nat.lt_irrefl _)
 have fD := R1e.fresh nD
 have hfsD := R1e.notfs nD
 have hfsC : C ∉ frs A := R1e.notfs (by
  cases e : s1.heap.get? C with
  | none => rfl
  | some o => exact absurd (Heap.lt_size (hk' _ _ e)) (Nat.lt_asymm hDC))
 have hno : NoCD obj := by obtain ⟨o, e1, e2⟩ := hcell _ _ hSt; rw [hn] at e1; (first | obtain ⟨_, rfl⟩ := e1.inv | cases e1); exact e2
 have hmD : h'.objs.size ≠ sysModules := (R1e.keeps (h' := h') (t := t) hk').nomods
 generalize hD : h'.objs.size = D at *
 have neID : I ≠ D := Nat.ne_of_lt hID
 have R2 := RC.guard (I := I) (obj := obj) gI fI.1 fI.2.1 fI.2.2 (fun hf => by
  rcases hf with e | ⟨e, _⟩
  ·have e' : I = C := e
   exact absurd (Nat.lt_trans hID hDC) (by rw [e']; exact Nat.lt_irrefl _)
  ·exact Nat.lt_asymm e (Nat.lt_trans hID hDC))
 have R4 := R2.guard (I := D) gD (by unfold Mem.put; rw [if_neg (Ne.symm neID)]; exact fD.1) fD.2.1 fD.2.2 (fun hf => by
  rcases hf with e | ⟨e, _⟩
  ·have e' : D = C := e
   exact absurd hDC (by rw [e']; exact Nat.lt_irrefl _)
  ·exact Nat.lt_asymm e hDC)
 have st4 : St 0 h4 := W.frame _ _ _ hSt fun b hb o e => e4 _ _ (Heap.get?_push_of_some _ e)
 have loop : codeAny (model prog w) A (.compLoop (.ListComp elt [⟨.Name tx tp, iter, ifs, 0⟩] scope pos) 0 (.ref I) (.ref D) (cenvOf scope env C)) (compPost (model prog w) A NoE use Qs (.ref D) C) { s1 with heap := h4, toks := t } := by
  refine codeAny_compLoop_tests (fun n s => ∃ k Z2 obj nn ys, n = xs.length - k ∧ k ≤ xs.length ∧ Mem.Le Z1 Z2 ∧ RepF prog w s₀ (frs A) ((B1.put I obj).put D { cls := .type "list", data := .seq (List.toArray ys) nn }) Z2 (cenvOf scope env C) (capt scope m1) H1 s ∧ NoCD obj ∧ St k s.heap ∧
   Rvs prog w Z2 ((xs.take k).filterMap f) ys) ?_ xs.length ⟨0, Z1, obj, _, [], rfl, Nat.zero_le _, Mem.Le.refl _, R4, hno, st4, .nil⟩
  rintro n s xq
  walk_at "n,s|xq"
  walk_at "xq,k,Z2,obj,nn|xq"
  walk_at "xq,ys|xq"
  obtain ⟨rfl, hle, l2, R2, hnc, st, hys⟩ := xq
  have hc2 := hnc.1
  rw [Mem.put_comm neID] at R2
  have hBI : ∀ o, (B1.put D o) I = none := fun o => by unfold Mem.put; rw [if_neg neID]; exact fI.1
  have hBD : ∀ o, (B1.put I o) D = none := fun o => by unfold Mem.put; rw [if_neg (Ne.symm neID)]; exact fD.1
  by_cases hlt : k < xs.length
  ·refine W.item k s _ _ hlt st fun x h2 tk hp st2 hk2 => ?_
   walk_at "x,h2,tk|hp,st2,hk2"
   have xq := hcell _ _ st2
   walk_at "xq,obj2|xq"
   obtain ⟨hn2, hc3⟩ := xq
   have R3 := R2.turnIt (t := tk) hfsI (hBI _) hc2 (fun b o hb e => hk2 b o (by simpa using hb) e) hn2
   obtain ⟨yk, hx⟩ : ∃ y, xs[k]? = some y := ⟨_, List.getElem?_eq_getElem hlt⟩
   walk_at "yk|hx"
   have hv := (hP k _ x hx hp).mono l2
   have take : (xs.take (k + 1)).filterMap f = (xs.take k).filterMap f ++ (f yk).toList := by
    rw [List.take_add_one, hx, List.filterMap_append]
    cases e : f yk <;> simp [e]
   have stay : ∀ {Zq : Mem} {mq : Loc} {Hq : Hp} {sq : Shared}, Mem.Le Z2 Zq → RepF prog w s₀ (frs A) ((B1.put D { cls := .type "list", data := .seq (List.toArray ys) nn }).put I obj2) Zq (cenvOf scope env C) mq Hq sq → St (k + 1) sq.heap := fun {Zq mq Hq sq} lq Rq =>
    W.frame _ _ _ st2 fun b hb o e => by
     rcases hfp b hb with rfl | ⟨o', ho'⟩
     ·rw [hn2] at e; (first | obtain ⟨_, rfl⟩ := e.inv | cases e)
      obtain ⟨o', g, q⟩ := Rq.r.kb _ _ (Mem.put_self ..)
      rw [q.exact hc3.2] at g; exact g
     ·have e1' : h2.get? b = some o' := R3.r.kz b o' (l2 _ _ ho')
      have eo : o' = o := Option.some.inj (e1'.symm.trans e)
      rw [← eo]
      exact Rq.r.kz b o' ((l2.trans lq) _ _ ho')
   refine wpAny_mono ((hbody C k _ hx).run _ Z2 _ x R3 hv) ?_ (fun _ _ x => x.elim)
   rintro _ s3 ⟨m3, H3, Z3, l3, R4, h3⟩
   walk_at "s3,m3,H3,Z3|l3,R4,h3"
   refine wpAny_mono (h3.run _ Z3 s3 R4) ?_ (fun _ _ x => x.elim)
   rintro ok s4 ⟨m4, H4, Z4, l4, R5, h4⟩
   walk_at "ok,s4,m4,H4,Z4|l4,R5,h4"
   cases ok with
   | false =>
    rw [if_neg (by simp)] at h4 ⊢
    obtain ⟨e, e1, e2⟩ := h4
    have R6 := (R5.less e1).lessH e2
    have st6 := stay (l3.trans l4) R6
    rw [← Mem.put_comm neID] at R6
    refine ⟨xs.length - (k + 1), by exact o12 hlt, k + 1, Z4, obj2, nn, ys, rfl, hlt, l2.trans (l3.trans l4), R6, hc3, st6, ?_⟩
    rw [take, e]
    simpa using hys.mono (l3.trans l4)
   | true =>
    rw [if_pos rfl] at h4 ⊢
    refine wpAny_mono (h4.run _ Z4 s4 R5) ?_ (fun _ _ x => x.elim)
    rintro y s5 ⟨vy, m5, H5, Z5, l5, R6, vy5, e, e1, e2⟩
    walk_at "y,s5,vy,m5,H5,Z5|l5,R6,vy5,e,e1,e2"
    have R7 := (R6.less e1).lessH e2
    have st7 := stay (l3.trans (l4.trans l5)) R7
    rw [← Mem.put_comm neID] at R7
    have pl : s5.heap.PlainList D ys.toArray := ⟨nn, by
     obtain ⟨o', g, q⟩ := R7.r.kb _ _ (Mem.put_self ..)
     rw [q.exact (fun es n e => by (first | obtain ⟨_, rfl⟩ := e.inv | cases e))] at g; exact g⟩
    have hsz : ys.toArray.size ≤ sizeLine := by
     have e1 := hys.length
     have e2 : ((xs.take k).filterMap f).length ≤ (xs.take k).length := List.length_filterMap_le _ _
     have e3 : (xs.take k).length ≤ xs.length := by rw [List.length_take]; exact o227
     simp only [List.size_toArray]
     exact o228 hlen e1 e2 e3
    refine wpAny_list_append_plain pl (fun h6 pl6 hs6 => ?_) hsz
    walk_at "h6|pl6,hs6"
    walk_at "pl6,nn'|pl6"
    have hn' := pl6
    clear pl6
    have R8 := R7.turnIt (h' := h6) (t := s5.toks) (obj' := { cls := .type "list", data := .seq (List.toArray (ys ++ [y])) nn' }) hfsD (hBD _) (fun v e => by (first | obtain ⟨_, rfl⟩ := e.inv | cases e)) (fun b o hb e => hs6.extBut b o hb e) (by rw [hn']; simp)
    refine ⟨xs.length - (k + 1), by exact o12 hlt, k + 1, Z5, obj2, nn', ys ++ [y], rfl, hlt, l2.trans (l3.trans (l4.trans l5)), R8, hc3, ?_, ?_⟩
    ·refine W.frame _ _ _ st7 fun b hb o e' => ?_
     rcases hfp b hb with rfl | ⟨o', ho'⟩
     ·exact hs6.extBut _ _ neID e'
     ·exact hs6.extBut _ _ (fun hh => by subst hh; rw [fD.2.1] at ho'; (first | obtain ⟨_, rfl⟩ := ho'.inv | cases ho')) e'
    ·rw [take, e]
     exact (hys.mono (l3.trans (l4.trans l5))).push vy5
  ·have hk' : k = xs.length := Nat.le_antisymm hle (Nat.not_lt.mp hlt)
   subst hk'
   refine W.done s _ _ st fun h2 tk hk2 => ?_
   walk_at "h2,tk|hk2"
   have R3 := R2.r.drop (t := tk) hfsI (hBI _) (fun b o hb e => hk2 b o (by simpa using hb) e)
   rw [List.take_length] at hys
   obtain ⟨hHD, R5⟩ := R3.work (o := .list (xs.filterMap f)) hfsD (fun es n e => by (first | obtain ⟨_, rfl⟩ := e.inv | cases e)) fD.1 ⟨ys, ⟨nn, rfl⟩, hys⟩ hmD
   obtain ⟨mr, ⟨oC, es, ep, ho, hd, r⟩, -⟩ := R2.f.ns
   walk_at "mr,oC,es,ep|ho,hd,r"
   have ho' : s.heap.get? C = some oC := ho
   have neCI : C ≠ I := Nat.ne_of_gt (Nat.lt_trans hID hDC)
   have hoC : h2.get? C = some oC := hk2 _ _ (by simpa using neCI) ho'
   have R6 : RepF prog w s₀ (frs A) B Z2 env m1 (H1.put D (.list (xs.filterMap f))) { s with heap := h2, toks := tk } := R1.back (hB1 ▸ R5) l2
   have hBC : B1 C = none := RC.f.lb
   have nf : ¬ frameAt env C := fun hf => by
    obtain ⟨_, _, _, o, ho⟩ := R1.f.at hf
    have : Bx B env s1.heap C = some o := by unfold Bx; rw [if_pos hf]; exact ho
    rw [hB1, hBC] at this; (first | obtain ⟨_, rfl⟩ := this.inv | cases this)
   have hbC : B C = none := by
    rw [← hB1] at hBC
    unfold Bx at hBC; rw [if_neg nf] at hBC; exact hBC
   have R7 := R6.guard (I := C) (obj := oC) hoC hbC R2.f.lz (by
    unfold Hp.put
    rw [if_neg (Nat.ne_of_gt hDC)]; exact R2.f.lh) nf
   exact hQ Z2 D C oC m1 H1 (xs.filterMap f) _ (l1.trans l2) hF hfsC hbC (fun v e => by rw [hd] at e; (first | obtain ⟨_, rfl⟩ := e.inv | cases e)) ⟨mr, oC, es, ep, hoC, hd, r⟩ hHD R7
 exact codeAny_compStart_list loop (W.self 0 _ _ _ st4 loop)
theorem RepF.freeze (R : RepF prog w s₀ fs B Z env m H s) {a : Addr} {o : O} (ha : H a = some o) : ∃ obj, OIs prog w Z o obj ∧ a ≠ sysModules ∧ Mem.Le Z (Z.put a obj) ∧ RepF prog w s₀ fs B (Z.put a obj) env m (H.del a) s := by
 walk_at "prog,w,s₀,s,fs,B,Z,H,env,m,a,o|R,ha"
 obtain ⟨obj, ho, hz, hm, R'⟩ := R.r.freeze ha
 walk_at "obj|ho,R'"
 have le := Mem.le_put hz obj
 have nz : ∀ {b}, H b = none → Z b = none → Z.put a obj b = none := fun {b} e e' => by
  walk_at "b|e,e'"
  unfold Mem.put
  rw [if_neg (fun h => by subst h; rw [ha] at e; (first | obtain ⟨_, rfl⟩ := e.inv | cases e))]; exact e'
 have nd : ∀ {b}, H b = none → H.del a b = none := fun {b} e => by by_cases h : b = a <;> simp [Hp.del, h, e]
 refine ⟨obj, ho, hm, le, R', ?_⟩
 exact {
  ns := let ⟨mr, h1, h2⟩ := R.f.ns; ⟨mr, h1, fun x v hx hv => let ⟨val, e1, e2⟩ := h2 x v hx hv; ⟨val, e1, e2.mono le⟩⟩
  lb := R.f.lb
  lz := nz R.f.lh R.f.lz
  lh := nd R.f.lh
  cell := fun x hx => by
   walk_at "x|hx"
   obtain ⟨c, a1, a8⟩ := R.f.cell x hx
   refine ⟨c, a1, ?_⟩
   rcases a8 with ⟨hlt, ov, a2, a3, a4, a5, a6⟩ | ⟨hn, o, hb, hq, a3⟩
   ·exact .inl ⟨hlt, ov, a2, fun v e => let ⟨val, e1, e2⟩ := a3 v e; ⟨val, e1, e2.mono le⟩, a4, nz a6 a5, nd a6⟩
   ·exact .inr ⟨hn, o, hb, hq, fun v e => let ⟨val, e1, e2⟩ := a3 v e; ⟨val, e1, e2.mono le⟩⟩
  apart := R.f.apart
  free := fun x v hx hv => let ⟨c, o, val, h1, h2, h3, h4⟩ := R.f.free x v hx hv; ⟨c, o, val, h1, h2, h3, h4.mono le⟩ }
theorem Hp.del_put {a : Addr} {o : O} (h : H a = none) : (H.put a o).del a = H := by
 funext b; simp only [Hp.put, Hp.del]
 by_cases e : b = a
 ·subst e; simp [h]
 ·simp [e]

structure Turn (prog : Program) (w : World) (s₀ : Shared) (v : V) (H : Hp) (v' : V) (H' : Hp) : Prop where
 run : ∀ fs B Z env m s val, RepF prog w s₀ fs B Z env m H s → Rv prog w Z v val → ∃ Z', Mem.Le Z Z' ∧ RepF prog w s₀ fs B Z' env m H' s ∧ Rv prog w Z' v' val
theorem Turn.list {a : Addr} {xs : List V} (ha : H a = some (.list xs)) : Turn prog w s₀ (.ref a) H (.lst xs) (H.del a) := .mk fun fs B Z env m s val R hv => by
 (first | obtain ⟨_, rfl⟩ := hv.inv | cases hv)
 obtain ⟨obj, ⟨items, so, hi⟩, hm, le, R'⟩ := R.freeze ha
 exact ⟨_, le, R', .lst a obj xs items (Mem.put_self ..) so (hi.mono le)⟩
theorem Turn.dict {a : Addr} {kvs : List (Int × V)} (ha : H a = some (.dict kvs)) : Turn prog w s₀ (.ref a) H (.dct kvs) (H.del a) := .mk fun fs B Z env m s val R hv => by
 (first | obtain ⟨_, rfl⟩ := hv.inv | cases hv)
 obtain ⟨obj, ⟨items, so, hi⟩, hm, le, R'⟩ := R.freeze ha
 exact ⟨_, le, R', .dct a obj kvs items hm (Mem.put_self ..) so (hi.mono le)⟩
theorem TE.turn {e : Expr} {Q : V → Loc → Hp → Prop} (h : TE prog w s₀ A env e (fun v m1 H1 => ∃ v' H', Turn prog w s₀ v H1 v' H' ∧ Q v' m1 H') m H) : TE prog w s₀ A env e Q m H := .mk fun B Z s R => by
 refine wpAny_mono (h.run B Z s R) ?_ (fun _ _ x => x)
 rintro x s1 ⟨v, m1, H1, Z1, l1, R1, v1, v', H', t, h1⟩
 obtain ⟨Z2, l2, R2, v2⟩ := t.run _ _ _ _ _ _ _ R1 v1
 exact ⟨v', m1, H', Z2, l1.trans l2, R2, v2, h1⟩
theorem RepF.view {x : Str} {v v' : V} (R : RepF prog w s₀ fs B Z env m H s) (hx : m x = some v) (t : Turn prog w s₀ v H v' H') (hk : heldN env x = true) : ∃ Z', Mem.Le Z Z' ∧ RepF prog w s₀ fs B Z' env (m.put x v') H' s := by
 walk_at "prog,w,s₀,s,fs,B,Z,H,H',env,m,x,v,v'|R,hx,t,hk"
 simp only [heldN, Bool.and_eq_true, Bool.or_eq_true, beq_iff_eq, Bool.not_eq_true'] at hk
 obtain ⟨⟨hk, _⟩, _⟩ := hk
 have hp : ∀ y u, y ≠ x → m.put x v' y = some u → m y = some u := fun y u h e => by unfold Loc.put at e; rw [if_neg h] at e; exact e
 have hs : ∀ u, m.put x v' x = some u → u = v' := fun u e => by unfold Loc.put at e; rw [if_pos rfl] at e; (first | obtain ⟨_, rfl⟩ := e.inv | cases e); rfl
 rcases hk with (hk | hk) | hk
 ·have xq := R.f.ns
  walk_at "xq,mr|xq"
  obtain ⟨hn, hm⟩ := xq
  have xq := hm x v hk hx
  walk_at "xq,val|xq"
  obtain ⟨e1, e2⟩ := xq
  have xq := t.run _ _ _ _ _ _ _ R e2
  walk_at "xq,Z'|xq"
  obtain ⟨le, R', v2⟩ := xq
  refine ⟨Z', le, R'.r, ?_⟩
  exact {
   ns := ⟨mr, hn, fun y u hy hu => by
    walk_at "y,u|hy,hu"
    by_cases h : y = x
    ·subst h; rw [hs u hu]; exact ⟨val, e1, v2⟩
    ·obtain ⟨val', a, b⟩ := hm y u hy (hp y u h hu); exact ⟨val', a, b.mono le⟩⟩
   lb := R'.f.lb
   lz := R'.f.lz
   lh := R'.f.lh
   cell := fun y hy => by
    walk_at "y|hy"
    obtain ⟨c, a1, a8⟩ := R'.f.cell y hy
    have ne : y ≠ x := fun h => by subst h; rw [hk] at hy; (first | obtain ⟨_, rfl⟩ := hy.inv | cases hy)
    refine ⟨c, a1, ?_⟩
    rcases a8 with ⟨hlt, ov, a2, a3, a4⟩ | ⟨hn, o, hb, hq, a3⟩
    ·exact .inl ⟨hlt, ov, a2, fun u e => a3 u (hp y u ne e), a4⟩
    ·exact .inr ⟨hn, o, hb, hq, fun u e => a3 u (hp y u ne e)⟩
   apart := R'.f.apart
   free := fun y u hy e => R'.f.free y u hy (hp y u (fun h => by subst h; rw [hk] at hy; (first | obtain ⟨_, rfl⟩ := hy.inv | cases hy)) e) }
 ·have xq := R.f.cell x hk
  walk_at "xq,c|xq"
  obtain ⟨a1, a8⟩ := xq
  have key : ∃ val, Rv prog w Z v val ∧ ∀ Z', Mem.Le Z Z' → Rv prog w Z' v' val → ∀ R' : RepF prog w s₀ fs B Z' env m H' s, RepF prog w s₀ fs B Z' env (m.put x v') H' s := by
   have rest : ∀ val, ((env.locals < c ∧ s.heap.IsCell c (some val)) ∨ (¬ env.locals < c ∧ ∃ o, B c = some o ∧ o.data = .cell (some val))) → ∀ Z', Mem.Le Z Z' → Rv prog w Z' v' val → ∀ R' : RepF prog w s₀ fs B Z' env m H' s, RepF prog w s₀ fs B Z' env (m.put x v') H' s := by
    intro val hval Z' le v2 R'
    walk_at "val,Z'|hval,le,v2,R'"
    refine ⟨R'.r, ?_⟩
    exact {
     ns := by
      obtain ⟨mr, hn, hm⟩ := R'.f.ns
      exact ⟨mr, hn, fun y u hy hu => hm y u hy (hp y u (fun h => by subst h; rw [hk] at hy; (first | obtain ⟨_, rfl⟩ := hy.inv | cases hy)) hu)⟩
     lb := R'.f.lb
     lz := R'.f.lz
     lh := R'.f.lh
     cell := fun y hy => by
      walk_at "y|hy"
      have xq := R'.f.cell y hy
      walk_at "xq,c'|xq"
      obtain ⟨b1, b8⟩ := xq
      refine ⟨c', b1, ?_⟩
      by_cases h : y = x
      ·subst h
       rw [a1] at b1; (first | obtain ⟨_, rfl⟩ := b1.inv | cases b1)
       rcases b8 with ⟨hlt, ov, b2, b3, b4⟩ | ⟨hn, o, hb, hq, b3⟩
       ·walk_at "ov|b2,b3"
        refine .inl ⟨hlt, ov, b2, fun u e => ?_, b4⟩
        walk_at "u|e"
        rw [hs u e]
        rcases hval with ⟨_, o1, e1, e2⟩ | ⟨hn, _⟩
        ·obtain ⟨o2, e3, e4⟩ := b2
         rw [e1] at e3; (first | obtain ⟨_, rfl⟩ := e3.inv | cases e3); rw [e2] at e4; (first | obtain ⟨_, rfl⟩ := e4.inv | cases e4)
         exact ⟨val, rfl, v2⟩
        ·exact (hn hlt).elim
       ·refine .inr ⟨hn, o, hb, hq, fun u e => ?_⟩
        rw [hs u e]
        rcases hval with ⟨hlt, _⟩ | ⟨_, o1, e1, e2⟩
        ·exact (hn hlt).elim
        ·rw [hb] at e1; (first | obtain ⟨_, rfl⟩ := e1.inv | cases e1)
         exact ⟨val, e2, v2⟩
      ·rcases b8 with ⟨hlt, ov, b2, b3, b4⟩ | ⟨hn, o, hb, hq, b3⟩
       ·exact .inl ⟨hlt, ov, b2, fun u e => b3 u (hp y u h e), b4⟩
       ·exact .inr ⟨hn, o, hb, hq, fun u e => b3 u (hp y u h e)⟩
     apart := R'.f.apart
     free := fun y u hy e => R'.f.free y u hy (hp y u (fun h => by subst h; rw [hk] at hy; (first | obtain ⟨_, rfl⟩ := hy.inv | cases hy)) e) }
   rcases a8 with ⟨hlt, ov, a2, a3, a4⟩ | ⟨hn, o, hb, hq, a3⟩
   ·obtain ⟨val, rfl, hv⟩ := a3 v hx
    exact ⟨val, hv, rest val (.inl ⟨hlt, a2⟩)⟩
   ·obtain ⟨val, hd, hv⟩ := a3 v hx
    exact ⟨val, hv, rest val (.inr ⟨hn, o, hb, hd⟩)⟩
  obtain ⟨val, hv, k⟩ := key
  obtain ⟨Z', le, R', v2⟩ := t.run _ _ _ _ _ _ _ R hv
  exact ⟨Z', le, k Z' le v2 R'⟩
 ·have xq := R.f.free x v hk hx
  walk_at "xq,c,o,val|xq"
  obtain ⟨h1, h2, h3, h4⟩ := xq
  have xq := t.run _ _ _ _ _ _ _ R h4
  walk_at "xq,Z'|xq"
  obtain ⟨le, R', v2⟩ := xq
  refine ⟨Z', le, R'.r, ?_⟩
  exact {
   ns := by
    obtain ⟨mr, hn, hm⟩ := R'.f.ns
    exact ⟨mr, hn, fun y u hy hu => hm y u hy (hp y u (fun h => by subst h; rw [hk] at hy; (first | obtain ⟨_, rfl⟩ := hy.inv | cases hy)) hu)⟩
   lb := R'.f.lb
   lz := R'.f.lz
   lh := R'.f.lh
   cell := fun y hy => by
    walk_at "y|hy"
    obtain ⟨c, a1, a8⟩ := R'.f.cell y hy
    have ne : y ≠ x := fun h => by subst h; rw [hk] at hy; (first | obtain ⟨_, rfl⟩ := hy.inv | cases hy)
    refine ⟨c, a1, ?_⟩
    rcases a8 with ⟨hlt, ov, a2, a3, a4⟩ | ⟨hn, o, hb, hq, a3⟩
    ·exact .inl ⟨hlt, ov, a2, fun u e => a3 u (hp y u ne e), a4⟩
    ·exact .inr ⟨hn, o, hb, hq, fun u e => a3 u (hp y u ne e)⟩
   apart := R'.f.apart
   free := fun y u hy e => by
    walk_at "y,u|hy,e"
    by_cases h : y = x
    ·subst h; rw [hs u e]; exact ⟨c, o, val, h1, h2, h3, v2⟩
    ·exact R'.f.free y u hy (hp y u h e) }
theorem TS.view {ss : List Stmt} {Q : Fl → Loc → Hp → Prop} {x : Str} {v v' : V} (hx : m x = some v) (hk : heldN env x = true) (t : Turn prog w s₀ v H v' H') (h : TS prog w s₀ A env ss Q (m.put x v') H') : TS prog w s₀ A env ss Q m H := .mk fun B Z s R => by
 obtain ⟨Z1, l1, R1⟩ := R.view hx t hk
 refine wpAny_mono (h.run B Z1 s R1) ?_ (fun _ _ x => x)
 rintro f s2 ⟨g, m2, H2, Z2, l2, R2, v2, h2⟩
 exact ⟨g, m2, H2, Z2, l1.trans l2, R2, v2, h2⟩

/-! list comprehensions -/
section
variable {elt iter : Expr} {tx : Str} {tp : Pos} {ifs : List Expr} {scope : Scope} {pos : Pos}
noncomputable def Turns (prog : Program) (w : World) (s₀ : Shared) (A : Around) (env : Env) (elt : Expr) (tx : Str) (tp : Pos) (ifs : List Expr) (scope : Scope) (F : Loc → Hp → List V → Prop) (v : V) (m1 : Loc) (H1 : Hp) : Prop :=
 ∃ xs f, OpIt prog w s₀ A (.Name tx tp) v xs H1 ∧ xs.length ≤ sizeLine ∧ Reads scope env m1 ∧
   (∀ (C : Addr) (i : Nat) x, xs[i]? = some x → TA prog w s₀ A (cenvOf scope env C) (.Name tx tp) x (fun m2 H2 => TIfs prog w s₀ A (cenvOf scope env C) ifs (fun ok m3 H3 =>
    if ok = true then TE prog w s₀ A (cenvOf scope env C) elt (fun v m4 H4 => f x = some v ∧ Stay (capt scope m1) H1 m4 H4) m3 H3 else f x = none ∧ Stay (capt scope m1) H1 m3 H3) m2 H2) (capt scope m1) H1) ∧
   F m1 H1 (xs.filterMap f)
theorem TE.comp {Q : V → Loc → Hp → Prop} (hE : EnvOk env) (hk : scope.kind = .function) (nd : (scope.names.map Prod.fst).Nodup) (hr0 : Reads scope env m)
  (h : TE prog w s₀ A env iter (Turns prog w s₀ A env elt tx tp ifs scope fun m1 H1 vs => ∀ D, H1 D = none → Q (.ref D) m1 (H1.put D (.list vs))) m H)
  (hs : ∀ x, foldedSetIterable iter env x = pure x := by intro _; rfl) : TE prog w s₀ A env (.ListComp elt [⟨.Name tx tp, iter, ifs, 0⟩] scope pos) Q m H := .mk fun B Z s R => by
 rw [eval_ListComp]
 refine comp_core (F := fun m1 H1 vs => ∀ D, H1 D = none → Q (.ref D) m1 (H1.put D (.list vs))) hE hk nd hs hr0 h R ?_
 intro Z2 D C cobj m1 H1 vs s' le hF hfs hB hc ⟨mr, hn⟩ hD R2
 refine ⟨mr, hn, fun h' hs' => ?_⟩
 exact ⟨.ref D, m1, _, Z2, le, R2.heldIt (t := s'.toks) hfs hB hc (fun b o hb e => hs'.extBut b o hb e), .ref D, hF D hD⟩
theorem TE.comp_lst {Q : V → Loc → Hp → Prop} (hE : EnvOk env) (hk : scope.kind = .function) (nd : (scope.names.map Prod.fst).Nodup) (hr0 : Reads scope env m)
  (h : TE prog w s₀ A env iter (Turns prog w s₀ A env elt tx tp ifs scope fun m1 H1 vs => Q (.lst vs) m1 H1) m H)
  (hs : ∀ x, foldedSetIterable iter env x = pure x := by intro _; rfl) : TE prog w s₀ A env (.ListComp elt [⟨.Name tx tp, iter, ifs, 0⟩] scope pos) Q m H := by
 walk_at "prog,w,s₀,H,env,m,A,elt,iter,tx,tp,ifs,scope,pos,Q|hE,hk,nd,hr0,h,hs"
 refine TE.turn (TE.comp hE hk nd hr0 (.mk fun B Z s R => wpAny_mono (h.run B Z s R) ?_ (fun _ _ x => x)) hs)
 rintro x s1 ⟨v, m1, H1, Z1, l1, R1, v1, xs, f, a, b, c, d, e⟩
 refine ⟨v, m1, H1, Z1, l1, R1, v1, xs, f, a, b, c, d, fun D hD => ⟨.lst _, H1, ?_, e⟩⟩
 have := Turn.list (prog := prog) (w := w) (s₀ := s₀) (H := H1.put D (.list (xs.filterMap f))) (a := D) (xs := xs.filterMap f) (by simp [Hp.put])
 rwa [Hp.del_put hD] at this
theorem T1.assign_comp {Q : Fl → Loc → Hp → Prop} {y : Str} {py spos : Pos} (hE : EnvOk env) (hk : scope.kind = .function) (nd : (scope.names.map Prod.fst).Nodup) (hr0 : Reads scope env m)
  (hy : env.kindOf y = some .local)
  (h : TE prog w s₀ A env iter (Turns prog w s₀ A env elt tx tp ifs scope fun m1 H1 vs => Q .next (m1.put y (.lst vs)) H1) m H)
  (hsw : swapsWith (.ListComp elt [⟨.Name tx tp, iter, ifs, 0⟩] scope pos) (some (.Name y py)) spos.line env = pure true)
  (hs : ∀ x, foldedSetIterable iter env x = pure x := by intro _; rfl) : T1 prog w s₀ A env (.Assign [.Name y py] (.ListComp elt [⟨.Name tx tp, iter, ifs, 0⟩] scope pos) spos) Q m H := .mk fun B Z s R => by
 rw [exec_Assign_Name_used _ _ _ _ hsw]
 refine wpAny_bind (wpAny_standAt (wpAny_bind ?_))
 show wpAny _ A (do let _ ← comprehension (.ListComp elt [⟨.Name tx tp, iter, ifs, 0⟩] scope pos) scope env _ (newList []) false (eval iter env) (some (assign (.Name y py) env))) _ _ s
 refine wpAny_bind (wpAny_mono (comp_core (F := fun m1 H1 vs => Q .next (m1.put y (.lst vs)) H1) (use := some (assign (.Name y py) env)) (Qs := fun _ s' => PS prog w s₀ (frs A) B Z env Q .next s') hE hk nd hs hr0 h R ?_) (fun _ s' hq => wpAny_pure (wpAny_pure hq)) (fun _ _ x => x))
 intro Z2 D C cobj m1 H1 vs s' le hF hfs hB hc ⟨mr, hn⟩ hD R2
 have t := Turn.list (prog := prog) (w := w) (s₀ := s₀) (H := H1.put D (.list vs)) (a := D) (xs := vs) (by simp [Hp.put])
 rw [Hp.del_put hD] at t
 obtain ⟨Z3, l3, R3, v3⟩ := t.run _ _ _ _ _ _ _ R2 (.ref D)
 obtain ⟨oc, hC, kC⟩ := R2.r.kb _ _ (Mem.put_self ..)
 refine wpAny_mono ((TA.name (A := A) (pos := py) (Q := fun m2 H2 => Q .next m2 H2) hE (by simp [stored?, hy]) hF).run _ Z3 s' (.ref D) R3 v3) ?_ (fun _ _ x => x.elim)
 rintro _ s4 ⟨m4, H4, Z4, l4, R4, h4⟩
 refine ⟨mr, ?_, fun h' hs' => ?_⟩
 ·obtain ⟨o, es, ep, g, d, r⟩ := hn
  rw [hC] at g; (first | obtain ⟨_, rfl⟩ := g.inv | cases g)
  obtain ⟨o4, g4, k4⟩ := R4.r.kb _ _ (Mem.put_self ..)
  exact ⟨o4, es, ep, g4, k4.data.trans (kC.data.symm.trans d), r⟩
 exact ⟨.next, m4, H4, Z4, le.trans (l3.trans l4), R4.heldIt (t := s4.toks) hfs hB hc (fun b o hb e => hs'.extBut b o hb e), .next, h4⟩
end
theorem low97 : Txt.lower ⟨#[97]⟩ = ⟨#[97]⟩ := by rfl
theorem low65 : Txt.lower ⟨#[65]⟩ = ⟨#[97]⟩ := by rfl
theorem low98 : Txt.lower ⟨#[98]⟩ = ⟨#[98]⟩ := by rfl
noncomputable def lowc (c : Nat) : Nat := if c = 65 then 97 else c
noncomputable def sign (c : Nat) : Prop := c = 97 ∨ c = 65 ∨ c = 98
theorem lower_sign {c : Nat} (h : sign c) : Txt.lower ⟨[c].toArray⟩ = ⟨[lowc c].toArray⟩ := by
 rcases h with rfl | rfl | rfl
 ·exact low97
 ·exact low65
 ·exact low98
theorem TC.lower {c : Nat} {Q : V → Hp → Prop} (hc : sign c) (h : Q (Mine.S [lowc c]) H) : TC prog w s₀ A (.raw (.builtin "str.lower")) [Mine.S [c]] Q H := .mk fun B Z s f ys R hf hy => by
 (first | obtain ⟨_, rfl⟩ := hf.inv | cases hf)
 obtain ⟨x, rfl, hx⟩ := hy.inv1
 (first | obtain ⟨_, rfl⟩ := hx.inv | cases hx)
 have e := lower_sign hc
 refine SC.lower ?_ ?_
 ·rw [e]; rfl
 ·rw [e]; exact ⟨_, H, Z, Mem.Le.refl _, R.tok _, .str _ _, h⟩
section
open PySem PySem.W PyProof.Rows PySem.Calls

/-! namespaces of instances -/
noncomputable def fget : List (Str × V) → Str → Option V
 | [], _ => none
 | (k, v) :: r, n => if k = n then some v else fget r n
noncomputable def fput : List (Str × V) → Str → V → List (Str × V)
 | [], n, v => [(n, v)]
 | (k, u) :: r, n, v => if k = n then (k, v) :: r else (k, u) :: fput r n v
theorem fput_length (f : List (Str × V)) (n : Str) (v : V) : (fput f n v).length ≤ f.length + 1 := by
 induction f with
 | nil => simp [fput]
 | cons p f ih =>
  obtain ⟨k, u⟩ := p
  unfold fput
  split <;> simp_all
theorem isStr_key (k n : Str) (t : Tok) : (Value.str k t).isStr n = decide (k = n) := by simp [Value.isStr]; rfl
theorem Rfs.get {f : List (Str × V)} {es : List DictEntry} (h : Rfs prog w Z f es) (n : Str) : (fget f n = none ∧ getL n es = some none ∧ es.any (·.key.isStr n) = false) ∨ ∃ v x, fget f n = some v ∧ getL n es = some (some x) ∧ Rv prog w Z v x := by
 have key : (fget f n = none ∧ es.find? (·.key.isStr n) = none ∧ es.any (·.refKey) = false ∧ es.any (·.key.isStr n) = false) ∨ ∃ v e, fget f n = some v ∧ es.find? (·.key.isStr n) = some e ∧ Rv prog w Z v e.val := by
  induction h with
  | nil => exact .inl ⟨rfl, rfl, rfl, rfl⟩
  | cons k t v x vs xs h _ ih =>
   by_cases hk : k = n
   ·refine .inr ⟨v, ⟨PyData.keyHash w.params k, .str k t, x⟩, by simp [fget, hk], ?_, h⟩
    rw [List.find?_cons_of_pos]
    show (Value.str k t).isStr n = true
    rw [isStr_key]; simp [hk]
   ·have hn : (Value.str k t).isStr n = false := by rw [isStr_key]; simp [hk]
    have e1 : fget ((k, v) :: vs) n = fget vs n := by simp [fget, hk]
    rw [e1, List.find?_cons_of_neg (by simp [hn])]
    rcases ih with ⟨a, b, c, d⟩ | r
    ·exact .inl ⟨a, b, by simp [c]; rfl, by simp [d, hn]⟩
    ·exact .inr r
 rcases key with ⟨a, b, c, d⟩ | ⟨v, e, a, b, c⟩
 ·refine .inl ⟨a, ?_, d⟩
  unfold getL; rw [b, c]; rfl
 ·refine .inr ⟨v, e.val, a, ?_, c⟩
  unfold getL; rw [b]
theorem Rfs.put {f : List (Str × V)} {es : List DictEntry} (h : Rfs prog w Z f es) (n : Str) (t : Tok) {v : V} {x : Value} (hv : Rv prog w Z v x) : Rfs prog w Z (fput f n v) (putL n (PyData.keyHash w.params n) (.str n t) x es) := by
 induction h with
 | nil => exact .cons n t v x [] [] hv .nil
 | cons k t' u y vs xs h r ih =>
  unfold fput putL
  rw [isStr_key]
  by_cases hk : k = n
  ·simp only [hk, if_true, decide_true]; exact hk ▸ .cons k t' v x vs xs hv r
  ·simp only [hk, if_false, decide_false, Bool.false_eq_true]; exact .cons k t' u y _ _ h ih
theorem Rfs.length {f : List (Str × V)} {es : List DictEntry} (h : Rfs prog w Z f es) : es.length = f.length := by
 induction h with
 | nil => rfl
 | cons k t v x vs xs h _ ih => simp [ih]

noncomputable def V.val? : V → Bool
 | .raw _ => false
 | _ => true
theorem Rv.handed {v : V} {x : Value} (h : Rv prog w Z v x) (hv : v.val? = true) : handedIn x = true := by
 walk_at "prog,w,Z,v,x|h,hv"
 (first | obtain ⟨_, rfl⟩ := h.inv | cases h) <;> first | rfl | (first | obtain ⟨_, rfl⟩ := hv.inv | cases hv)

structure Own (K : Frag) (s₀ : Shared) : Prop where
 x : K.In s₀.heap
theorem Own.at {K : Frag} (X : K.In s₀.heap) (R : Rep prog w s₀ fs B Z H s) : K.In s.heap := fun a o e => R.kept0 _ _ (X a o e)
structure FieldK (K : Frag) (C : Addr) (name : Str) : Prop where
 g : plainGet K C name = true
 h : hasDictIn K C = true
 f : findIn K (.ref C) name = some none
 t : takerIn K C name = some none
 s : findIn K (.ref C) "__setattr__" = some (some (.builtin "object.__setattr__"))
 p : plainOver K C = true
structure MethK (K : Frag) (C : Addr) (name : Str) (fa : Addr) : Prop where
 g : plainGet K C name = true
 f : findIn K (.ref C) name = some (some (.ref fa))
 t : isFn K (.ref fa) = true
structure SlotK (K : Frag) (C : Addr) (name : Str) (ix : Nat) (p : Addr) : Prop where
 g : plainGet K C name = true
 c : isClsIn K C = true
 f : findIn K (.ref C) name = some (some (.ref p))
 n : specialIn K (.ref p) "__get__" = some (some (.builtin "member_descriptor.__get__"))
 t : takesIn K (.ref p) = some true
 i : slotIn K p C = some ix
 r : takerIn K C name = some (some (.ref p))
 y : typeIn K (.ref p) = some (.type "member_descriptor")
 s : findIn K (.ref C) "__setattr__" = some (some (.builtin "object.__setattr__"))
 o : plainOver K C = true
 z : ix < 1000
variable {K : Frag} {S C D a : Addr} {f : List (Str × V)} {name : Str} {v : V}
theorem Rep.inst (R : Rep prog w s₀ fs B Z H s) (hS : H S = some (.inst C D)) (hD : H D = some (.ns f)) : ∃ es n, s.heap.get? D = some (dictOf es n) ∧ Rfs prog w Z f es ∧ InstAt s.heap S { cls := .ref C, dict := some D } C (some (dictOf es n)) := by
 walk_at "prog,w,s₀,s,fs,B,Z,H,S,C,D,f|R,hS,hD"
 obtain ⟨_, _, o, hg, ho, _⟩ := R.own _ _ hS
 obtain ⟨_, _, o', hg', ⟨es, n, rfl, hr⟩, _⟩ := R.own _ _ hD
 (first | obtain ⟨_, rfl⟩ := ho.inv | cases ho)
 exact ⟨es, n, hg', hr, hg, rfl, rfl, hg'⟩
theorem Op1.field (X : K.In s₀.heap) (k : FieldK K C name) (hS : H S = some (.inst C D)) (hD : H D = some (.ns f)) (hv : fget f name = some v) (hval : v.val? = true) {Q : V → Hp → Prop} (h : Q v H) :
  Op1 prog w s₀ A (fun o => getAttr o name true) (.ref S) Q H := by
 walk_at "prog,w,s₀,H,A,K,S,C,D,f,name,v,Q|X,k,hS,hD,hv,hval,h"
 refine .mk ?_
 intro B Z s x R hx
 walk_at "B,Z,s,x|R,hx"
 obtain ⟨_, rfl⟩ := hx.inv
 obtain ⟨es, n, hg, hr, I⟩ := R.inst hS hD
 rcases hr.get name with ⟨e, _⟩ | ⟨v', x, e1, e2, e3⟩
 ·rw [hv] at e; (first | obtain ⟨_, rfl⟩ := e.inv | cases e)
 ·rw [hv] at e1; (first | obtain ⟨_, rfl⟩ := e1.inv | cases e1)
  exact get_value (Own.at X R) I (plainGet_of k.g).1 (findObj_own k.h k.f rfl e2) (e3.handed hval) (.tok R e3 h)
theorem OpM.inst (X : K.In s₀.heap) {fa : Addr} (k : MethK K C name fa) (hS : H S = some (.inst C D)) (hD : H D = some (.ns f)) (hv : fget f name = none) {Q : V → List V → Hp → Prop} (h : Q (.raw (.ref fa)) [.ref S] H) :
  OpM prog w s₀ A name (.ref S) Q H := by
 walk_at "prog,w,s₀,H,A,K,S,C,D,f,name,fa,Q|X,k,hS,hD,hv,h"
 refine .mk ?_
 intro B Z s x pl R hx
 walk_at "B,Z,s,x,pl|R,hx"
 obtain ⟨_, rfl⟩ := hx.inv
 obtain ⟨es, n, hg, hr, I⟩ := R.inst hS hD
 rcases hr.get name with ⟨_, e, _⟩ | ⟨v', x, e1, _⟩
 ·exact method_fn (Own.at X R) I (plainGet_of k.g).1 (plainGet_of k.g).2 k.f (beq_iff_eq.mp k.t) (by show (lookIn name (dictOf es n)).map _ = _; rw [lookIn_dict, e]; rfl)
   ⟨_, _, H, Z, Mem.Le.refl _, R, .raw _, .one (.ref S), h⟩
 ·rw [hv] at e1; (first | obtain ⟨_, rfl⟩ := e1.inv | cases e1)
theorem Rfs.noref {f : List (Str × V)} {es : List DictEntry} (h : Rfs prog w Z f es) : es.any (·.refKey) = false := by
 induction h with
 | nil => rfl
 | cons k t v x vs xs h _ ih => simp [ih]; rfl
theorem store_ns {ox : Obj} {dx x : Addr} {tk : Tok} {y : Value} {es : List DictEntry} {n : Nat} {Rr : Result → Shared → Prop} (X : K.In s.heap) (I : InstAt s.heap x ox C (some (dictOf es n))) (hd : ox.dict = some dx) (k : FieldK K C name)
  (hl : es.any (·.refKey) = false) (g : s.heap.get? dx = some (dictOf es n)) (hz : es.length ≤ 900)
  (h : Rr (.ok (.ret .none)) { s with heap := s.heap.update dx (Obj.putName name (PyData.keyHash w.params name) (.str name s.toks) y), toks := s.toks + 1 }) :
  codeAny (model prog w) A (.call (.builtin "object.__setattr__") ⟨[.ref x, .str name tk, y], []⟩) Rr s := by
 walk_at "prog,w,s,A,K,C,name,ox,dx,x,tk,y,es,n,Rr|X,I,hd,k,hl,g,hz,h"
 refine osa_open X I k.p k.t fun b => ?_
 walk_at "b|"
 have xq := any_some k.h
 walk_at "xq,cd|xq"
 obtain ⟨hc, hd'⟩ := xq
 have e := putName_dict name (PyData.keyHash w.params name) (.str name s.toks) y es n
 have g' := Heap.get?_update_self (Obj.putName name (PyData.keyHash w.params name) (.str name s.toks) y) g (by rw [e]; rfl)
 rw [e] at g'
 obtain ⟨hx, hcl, hn, -⟩ := I
 obtain ⟨oc, odi, oda, osl⟩ := ox
 walk_at "oc,odi,oda,osl|hd,hx,hcl,hn"
 dsimp only at hcl hd
 subst hcl hd
 refine wpAny_bind (wpAny_pure (wpAny_bind (wpAny_bind (wpAny_loadPart hx (wpAny_bind ((looks_clsIn X hc).here ?_))))))
 rw [hd']
 refine wpAny_pure (a := some dx) (wpAny_bind (wpAny_pure (wpAny_bind ?_)))
 unfold nsSet
 refine wpAny_bind (wpAny_bind (wpAny_askSetting (wpAny_pure (wpAny_bind (wpAny_mkText (wpAny_bind (wpAny_loadPart g ?_)))))))
 dsimp only [dictOf]
 rw [aRefKeyMayBeTheName_at, List.any_toArray, List.any_toArray, hl, Bool.and_false]
 refine wpAny_updatePart g ?_
 refine wpAny_bind (wpAny_lookBehind g' (pastItsLine_dict ?_) (wpAny_pure h))
 rw [List.size_toArray, sizeLine_eq]
 have : (putL name (PyData.keyHash w.params name) (.str name s.toks) y es).length ≤ es.length + 1 := by
  clear e g' g hl hz h
  induction es with
  | nil => simp [putL]
  | cons q r ih => unfold putL; split <;> simp_all
 exact o229 hz this
theorem OpU.field (X : K.In s₀.heap) (k : FieldK K C name) (hS : H S = some (.inst C D)) (hD : H D = some (.ns f)) (hz : f.length ≤ 900) {Q : Hp → Prop} (h : Q (H.put D (.ns (fput f name v)))) :
  OpU prog w s₀ A (fun a _ c => setAttr a name c) (.ref S) .none v Q H := .mk fun B Z s x y z R hx _ hz' => by
 obtain ⟨_, rfl⟩ := hx.inv
 obtain ⟨es, n, hg, hr, I⟩ := R.inst hS hD
 refine set_plain (Own.at X R) I k.s (store_ns (s := { s with toks := s.toks + 1 }) (Own.at X (R.tok _)) I rfl k hr.noref hg (by rw [hr.length]; exact hz) ?_)
 refine ⟨_, Z, Mem.Le.refl _, R.set (t := s.toks + 2) hD (Heap.SameBut.update ..) (Heap.get?_update_self _ hg (by rw [putName_dict]; rfl)) ?_, h⟩
 rw [putName_dict]
 exact ⟨_, _, rfl, hr.put name _ hz'⟩
end
section
open PySem PySem.W PyProof.Rows PySem.Calls Builtin Builtin.ObjectAttr Builtin.Getset_descriptor
variable {K : Frag} {C a : Addr} {name : Str} {v : V} {vs : List (Option V)}

/-! slots -/
theorem Rep.node (R : Rep prog w s₀ fs B Z H s) (ha : H a = some (.node C vs)) : ∃ xs d od, s.heap.get? a = some { cls := .ref C, dict := some d, data := .plain, slots := xs } ∧ Z d = some od ∧ xs.size = vs.length ∧
  (∀ (i : Nat) v, vs[i]? = some (some v) → ∃ x, xs[i]? = some (some x) ∧ Rv prog w Z v x) ∧ InstAt s.heap a { cls := .ref C, dict := some d, data := .plain, slots := xs } C (some od) := by
 walk_at "prog,w,s₀,s,fs,B,Z,H,C,a,vs|R,ha"
 obtain ⟨_, _, o, hg, ⟨xs, d, od, rfl, hd, hn, hr⟩, _⟩ := R.own _ _ ha
 exact ⟨xs, d, od, hg, hd, hn, hr, hg, rfl, rfl, R.kz _ _ hd⟩
theorem Op1.slot (X : K.In s₀.heap) {i : Nat} {p : Addr} (k : SlotK K C name i p) (ha : H a = some (.node C vs)) (hv : vs[i]? = some (some v)) (hval : v.val? = true) {Q : V → Hp → Prop} (h : Q v H) :
  Op1 prog w s₀ A (fun o => getAttr o name true) (.ref a) Q H := .mk fun B Z s x R hx => by
 obtain ⟨_, rfl⟩ := hx.inv
 obtain ⟨xs, d, od, hg, hd, hn, hr, I⟩ := R.node ha
 obtain ⟨y, hy, hvy⟩ := hr i v hv
 have X' := Own.at X R
 exact get_bind X' I (plainGet_of k.g).1 (findObj_data k.c k.f k.n k.t) (plainGet_of k.g).2 (wpAny_call (slot_get (s := { s with toks := s.toks + 1 }) X' I k.i (by rw [hy]; rfl) (handed_on (hvy.handed hval) (.tok R hvy h))))
theorem store_slot {ox : Obj} {od : Option Obj} {y : Value} {p x : Addr} {i : Nat} {Rr : Result → Shared → Prop} (X : K.In s.heap) (I : InstAt s.heap x ox C od) (hp : slotIn K p C = some i) (hi : i < 1000)
  (h : Rr (.ok (.ret .none)) { s with heap := s.heap.update x (fun o => { o with slots := (o.slots ++ Array.replicate (i + 1 - o.slots.size) none).setIfInBounds i (some y) }) }) :
  codeAny (model prog w) A (.call (.builtin "member_descriptor.__set__") ⟨[.ref p, .ref x, y], []⟩) Rr s := by
 walk_at "prog,w,s,A,K,C,ox,od,y,p,x,i,Rr|X,I,hp,hi,h"
 have xq := slot_of X hp
 walk_at "xq,n,tn,owner,behind|xq"
 walk_at "xq,tb,d,sl,cd|xq"
 obtain ⟨ho, hc, hm, hb, rfl⟩ := xq
 obtain ⟨hh, g, dr, t, os⟩ := s
 walk_at "hh,g,dr,t,os|X,I,ho,h"
 have L0 := I.type (M := model prog w)
 have L1 := looks_mroIn (M := model prog w) X hm
 have L2 : Looks (model prog w) hh (Slots.slotNamesOf (.ref C)) cd.slotNames := (looks_clsIn X hc).andThen .now
 have hx := I.at_
 dsimp only at ho hx L0 L1
 have f0 := looks_field (M := model prog w) ho 0 (v := .str n tn) rfl
 have f1 := looks_field (M := model prog w) ho 1 (v := owner) rfl
 have f3 := looks_field (M := model prog w) ho 3 (v := .builtin "proto.slot#set") rfl
 have f4 := looks_field (M := model prog w) ho 4 (v := .int behind tb) rfl
 refine codeAny_call_builtin KF.slot_mset.plain KF.entry_mset (KF.slot_mset.check _ _ _ _ _ _ _ _ ⟨_, ho, rfl⟩ (KF.args_mset _ _ _) ?_)
 unfold Builtin.«member_descriptor.__set__» descrSet descrStoreThrough descrCheckInstance descrNameAndClass isInstance
 have f5 : Looks (model prog w) hh (descrItself (.ref p)) [.ref p] := ((Looks.ld (part := none) ho).andThen .now).andThen (Looks.of_pure (by kernel_rfl))
 repeat lk
 refine ⟨Code.quiet_builtin _ (by decide +kernel), codeAny_builtin KF.entry_slotset ?_⟩
 unfold Builtin.«proto.slot#set» Slots.target
 repeat lk
 rw [if_neg hb]
 refine wpAny_pure (wpAny_bind ?_)
 unfold setSlotAt
 dsimp only
 rw [if_neg (by rw [sizeLine_eq]; exact o230 hi)]
 exact wpAny_updatePart hx (wpAny_pure h)
noncomputable def slput (vs : List (Option V)) (i : Nat) (v : V) : List (Option V) := (vs ++ List.replicate (i + 1 - vs.length) none).set i (some v)
set_option tactic.hygienic true in
theorem OpU.slot (X : K.In s₀.heap) {i : Nat} {p : Addr} (k : SlotK K C name i p) (ha : H a = some (.node C vs)) {Q : Hp → Prop} (h : Q (H.put a (.node C (slput vs i v)))) :
  OpU prog w s₀ A (fun a _ c => setAttr a name c) (.ref a) .none v Q H := .mk fun B Z s x y z R hx _ hz' => by
 obtain ⟨_, rfl⟩ := hx.inv
 obtain ⟨xs, d, od, hg, hd, hn, hr, I⟩ := R.node ha
 have X' := Own.at X R
 refine set_plain X' I k.s (osa_descr (s := { s with toks := s.toks + 1 }) KF.slot_mset X' I k.o k.r k.y (store_slot (s := { s with toks := s.toks + 1 }) X' I k.i k.z ?_))
 refine ⟨_, Z, Mem.Le.refl _, R.set (t := s.toks + 1) ha (Heap.SameBut.update ..) (Heap.get?_update_self _ hg rfl) ?_, h⟩
 refine ⟨_, d, od, rfl, hd, ?_, ?_⟩
 ·simp [slput, hn]
 ·intro j u hu
  unfold slput at hu
  by_cases hj : j = i
  ·subst hj
   have e : u = v := by
    rw [List.getElem?_set_self' ] at hu
    simp at hu
    exact hu.2.symm
   subst e
   refine ⟨z, ?_, hz'⟩
   rw [Array.getElem?_setIfInBounds_self_of_lt]
   simp only [Array.size_append, Array.size_replicate]
   exact o231
  ·rw [List.getElem?_set_ne (Ne.symm hj)] at hu
   rw [Array.getElem?_setIfInBounds_ne (Ne.symm hj)]
   rw [List.getElem?_append] at hu
   split at hu
   ·rename_i hlt
    obtain ⟨x, a1, a2⟩ := hr j u hu
    refine ⟨x, ?_, a2⟩
    rw [Array.getElem?_append_left (by rw [hn]; exact hlt)]
    exact a1
   ·rw [List.getElem?_replicate] at hu
    split at hu <;> (first | obtain ⟨_, rfl⟩ := hu.inv | cases hu)

/-! class calls -/
structure MakeK (K : Frag) (C fI : Addr) : Prop where
 m : makesIn K C = true
 i : findIn K (.ref C) "__init__" = some (some (.ref fI))
 f : typeIn K (.ref fI) = some (.type "function")
theorem frs_under (c : Code) (h : c.envs = []) : frs (A.under c) = frs A := by unfold frs Around.under; rw [h]; rfl
theorem make_env (C : Addr) (xs : List Value) : (Code.builtin "type.__call__" ⟨.ref C :: xs, []⟩).envs = [] := rfl
theorem TC.make (X : K.In s₀.heap) {fI : Addr} (k : MakeK K C fI) {vs : List V} {Q : V → Hp → Prop}
  (h : ∀ D S A', A'.frames = A.frames → A'.handled = A.handled → A'.depth = A.depth + 1 → A'.units = A.units + 1 → H D = none → H S = none → S ≠ D →
   TCd prog w s₀ A' (.raw (.ref fI)) (.ref S :: vs) (fun r H1 => r = .none ∧ Q (.ref S) H1) ((H.put D (.ns [])).put S (.inst C D))) : TCd prog w s₀ A (.raw (.ref C)) vs Q H := by
 walk_at "prog,w,s₀,H,A,K,C,fI,vs,Q|X,k,h"
 refine .mk ?_
 intro B Z s x xs R hx hv
 walk_at "B,Z,s,x,xs|R,hx,hv"
 obtain ⟨_, rfl⟩ := hx.inv
 obtain ⟨hh, g, d, t, os⟩ := s
 walk_at "hh,g,d,t,os|R"
 have X' := Own.at X R
 refine make_core (makes_of X' k.m) (looks_findIn X' k.i) (fun self => bind_fn X' self k.f) (.inl rfl) ?_
 have R1 := R.alloc (h' := hh.push emptyDict) (t := t) (o := .ns []) (get?_size _) (fun _ _ e => Heap.get?_push_of_some _ e) (Heap.get?_push_size _ rfl) ⟨[], 0, rfl, .nil⟩ R.nomods
 have R2 := R1.alloc (h' := (hh.push emptyDict).push (instObj C hh.objs.size)) (t := t) (o := .inst C hh.objs.size) (get?_size _) (fun _ _ e => Heap.get?_push_of_some _ e) (Heap.get?_push_size _ rfl) rfl R1.nomods
 have e : (hh.push emptyDict).objs.size = hh.objs.size + 1 := Heap.size_push ..
 dsimp only at R2
 rw [e] at R2
 have f1 := (R.fresh (get?_size _)).2.2
 have f2 := (R1.fresh (get?_size _)).2.2
 dsimp only at f2
 rw [e] at f2
 have ne : hh.objs.size + 1 ≠ hh.objs.size := Nat.succ_ne_self _
 have f3 : H (hh.objs.size + 1) = none := by unfold Hp.put at f2; rw [if_neg ne] at f2; exact f2
 have hf := frs_under (A := A) _ (make_env C xs)
 refine codeAny_mono ((h hh.objs.size (hh.objs.size + 1) (A.under (.builtin "type.__call__" ⟨.ref C :: xs, []⟩)) rfl rfl rfl rfl f1 f3 ne).run B Z _ _ _ (hf ▸ R2) (.raw _) (.cons _ _ _ _ (.ref _) hv)) ?_
 intro r s' q
 walk_at "r,s'|q"
 rw [hf] at q
 cases r with
 | error e => exact q.elim
 | ok fl => cases fl with
  | ret y =>
   obtain ⟨u, H1, Z1, l1, R3, v3, rfl, q⟩ := q
   obtain ⟨_, rfl⟩ := v3.inv
   exact ⟨rfl, .ref _, H1, Z1, l1, R3, .ref _, q⟩
  | _ => exact q.elim
theorem TC.makeN (X : K.In s₀.heap) {fI : Addr} (k : MakeK K C fI) {vs : List V} {Q : V → Hp → Prop}
  (h : ∀ S A', A'.frames = A.frames → A'.handled = A.handled → A'.depth = A.depth + 1 → A'.units = A.units + 1 → H S = none →
   TCd prog w s₀ A' (.raw (.ref fI)) (.ref S :: vs) (fun r H1 => r = .none ∧ Q (.ref S) H1) (H.put S (.node C []))) : TCd prog w s₀ A (.raw (.ref C)) vs Q H := by
 walk_at "prog,w,s₀,H,A,K,C,fI,vs,Q|X,k,h"
 refine .mk ?_
 intro B Z s x xs R hx hv
 walk_at "B,Z,s,x,xs|R,hx,hv"
 obtain ⟨_, rfl⟩ := hx.inv
 obtain ⟨hh, g, d, t, os⟩ := s
 walk_at "hh,g,d,t,os|R"
 have X' := Own.at X R
 refine make_core (makes_of X' k.m) (looks_findIn X' k.i) (fun self => bind_fn X' self k.f) (.inl rfl) ?_
 have R1 := R.allocZ (h' := hh.push emptyDict) (t := t) (obj := emptyDict) (get?_size _) (fun _ _ e => Heap.get?_push_of_some _ e) (Heap.get?_push_size _ rfl)
 have l1 := Mem.le_put (Z := Z) (R.fresh (get?_size hh)).2.1 emptyDict
 have R2 := R1.alloc (h' := (hh.push emptyDict).push (instObj C hh.objs.size)) (t := t) (o := .node C []) (get?_size _) (fun _ _ e => Heap.get?_push_of_some _ e) (Heap.get?_push_size _ rfl) ⟨#[], _, emptyDict, rfl, Mem.put_self .., rfl, fun i v e => by simp at e⟩ R1.nomods
 have e : (hh.push emptyDict).objs.size = hh.objs.size + 1 := Heap.size_push ..
 dsimp only at R2
 rw [e] at R2
 have f2 := (R1.fresh (get?_size _)).2.2
 dsimp only at f2
 rw [e] at f2
 have hf := frs_under (A := A) _ (make_env C xs)
 refine codeAny_mono ((h (hh.objs.size + 1) (A.under (.builtin "type.__call__" ⟨.ref C :: xs, []⟩)) rfl rfl rfl rfl f2).run B _ _ _ _ (hf ▸ R2) (.raw _) (.cons _ _ _ _ (.ref _) (hv.mono l1))) ?_
 intro r s' q
 walk_at "r,s'|q"
 rw [hf] at q
 cases r with
 | error e => exact q.elim
 | ok fl => cases fl with
  | ret y =>
   obtain ⟨u, H1, Z1, l2, R3, v3, rfl, q⟩ := q
   obtain ⟨_, rfl⟩ := v3.inv
   exact ⟨rfl, .ref _, H1, Z1, l1.trans l2, R3, .ref _, q⟩
  | _ => exact q.elim
theorem KeepOk.cls (X : K.In s₀.heap) (hk : keepIn K (.ref C) = true) : KeepOk prog w s₀ (.raw (.ref C)) := .mk fun Z x hx => by
 obtain ⟨_, rfl⟩ := hx.inv
 obtain ⟨k, h1, h2⟩ := looks_keep (M := model prog w) hk X
 exact ⟨k, h1.imp_right .inl, h2⟩
end
section
open PySem PySem.W PyProof.Rows PySem.Calls
variable {I : Addr} {obj : Obj}

theorem Rep.adoptZ {T : Addr} (R : Rep prog w s₀ fs B Z H s) (g : s.heap.get? T = some obj) (hB : B T = none) (hZ : Z T = none) (hH : H T = none) (hfs : T ∉ fs) : Rep prog w s₀ fs B (Z.put T obj) H s where
 kb := R.kb
 fr L e := let ⟨x, y, z⟩ := R.fr L e; ⟨x, by unfold Mem.put; rw [if_neg (fun h : L = T => hfs (h ▸ e))]; exact y, z⟩
 kz b o e := by
  unfold Mem.put at e
  by_cases hb : b = T
  ·rw [if_pos hb] at e; (first | obtain ⟨_, rfl⟩ := e.inv | cases e); subst hb; exact g
  ·rw [if_neg hb] at e; exact R.kz b o e
 dj b o e := by
  unfold Mem.put
  by_cases hb : b = T
  ·subst hb; rw [hB] at e; (first | obtain ⟨_, rfl⟩ := e.inv | cases e)
  ·rw [if_neg hb]; exact R.dj b o e
 own b o e := by
  obtain ⟨x, y, ob, z, u⟩ := R.own b o e
  have hb : b ≠ T := fun h => by subst h; rw [hH] at e; (first | obtain ⟨_, rfl⟩ := e.inv | cases e)
  exact ⟨x, by unfold Mem.put; rw [if_neg hb]; exact y, ob, z, u.1.mono (Mem.le_put hZ _), u.2⟩
 z0 b o e := (Mem.le_put hZ _) _ _ (R.z0 b o e)
 gens := R.gens
 os := R.os
 lim := R.lim
theorem RepF.adoptZ {T : Addr} (R : RepF prog w s₀ fs B Z env m H s) (g : s.heap.get? T = some obj) (hB : B T = none) (hZ : Z T = none) (hH : H T = none) (hfs : T ∉ fs) (hf : ¬ frameAt env T) : RepF prog w s₀ fs B (Z.put T obj) env m H s :=
 R.back (R.enter.adoptZ g (by unfold Bx; rw [if_neg hf]; exact hB) hZ hH hfs) (Mem.le_put hZ _)

/-! d.items() -/
theorem TC.items {kvs : List (Int × V)} {Q : V → Hp → Prop} (h : Q (.itms kvs) H) : TC prog w s₀ A (.raw (.builtin "dict.items")) [.dct kvs] Q H := by
 walk_at "prog,w,s₀,H,A,kvs,Q|h"
 refine .mk ?_
 intro B Z s f ys R hf hy
 walk_at "B,Z,s,f,ys|R,hf,hy"
 obtain ⟨_, rfl⟩ := hf.inv
 have xq := hy.inv1
 walk_at "xq,x|xq"
 obtain ⟨rfl, hx⟩ := xq
 obtain ⟨a, o, kvr, rfl, hm, hz, ho, hr⟩ := hx.inv
 have hD := Heap.dictOf_iff.mpr ⟨o, R.kz _ _ hz, ho⟩
 have hne : a ≠ s.heap.objs.size := Nat.ne_of_lt (Heap.lt_size (R.kz _ _ hz))
 have hz' := (Mem.le_put (Z := Z) (R.fresh (get?_size _)).2.1 { cls := .type "dict_items", data := .fields #[.ref a] })
 refine call_meetsIn F.slot_dict_items hD.typeIs F.entry_dict_items (F.args_dict_items_1 _) (meets_dict_items (intKind prog w) a (ne_mods hm)) ⟨⟨_, hD⟩, ?_⟩
 exact .newZ R (t := s.toks) (get?_size _) (fun _ _ e => Heap.get?_push_of_some _ e) (Heap.get?_push_size _ rfl) (.itms _ a _ o kvs kvr (Mem.put_self ..) rfl rfl hm (hz' _ _ hz) ho (hr.mono hz')) h
noncomputable abbrev itObj (d : Addr) (i n ep : Nat) (x ok ov : Value) : Obj := { cls := .type "dict_itemiterator", dict := none, data := .fields #[x, .bool false, .ref d, .int i 0, .int n 0, .int ep 0, ok, ov], slots := #[] }
theorem itObj_no {d : Addr} {i n ep : Nat} {x ok ov : Value} : NoCD (itObj d i n ep x ok ov) := ⟨fun v e => (by (first | obtain ⟨_, rfl⟩ := e.inv | cases e)), fun es n e => (by (first | obtain ⟨_, rfl⟩ := e.inv | cases e))⟩
theorem T1.for_items {elts x1 tp iter body pos} {Q : Fl → Loc → Hp → Prop} (hh : A.handled = none)
  (h : TE prog w s₀ A env iter (fun v m1 H1 => ∃ kvs, v = .itms kvs ∧ ∃ I : Nat → Loc → Hp → Prop, I 0 m1 H1 ∧
   (∀ i k u m2 H2, kvs[i]? = some (k, u) → I i m2 H2 → TA prog w s₀ A env (.Tuple elts x1 tp) (.tup [.int k, u]) (fun m3 H3 => TS prog w s₀ A env body (turnQ (I (i + 1)) Q) m3 H3) m2 H2) ∧
   (∀ m2 H2, I kvs.length m2 H2 → Q .next m2 H2)) m H)
  (hs : ∀ x, foldedSetIterable iter env x = pure x := by intro _; rfl) : T1 prog w s₀ A env (.For (.Tuple elts x1 tp) iter body [] pos) Q m H := by
 walk_at "prog,w,s₀,H,env,m,A,elts,x1,tp,iter,body,pos,Q|hh,h,hs"
 refine .mk ?_
 intro B Z s R
 walk_at "B,Z,s|R"
 refine wpAny_For (wpAny_mono (h.run B Z s R) ?_ idE) hs
 rintro x s1 ⟨v, m1, H1, Z1, l1, R1, v1, kvs, rfl, J, h0, hturn, hend⟩
 walk_at "x,s1,m1,H1,Z1,kvs,J|l1,R1,v1,h0,hturn,hend"
 obtain ⟨e, d, oe, o, kvr, rfl, he, hc, hd, hm, hz, ⟨es, ep, d1, d2, d3⟩, hr⟩ := v1.inv
 walk_at "e,d,oe,o,kvr,es,ep|v1,he,hc,hd,hm,hz,hr,d1,d2,d3"
 have at_ : ∀ {hp : Heap}, hp.get? d = some o → hp.DictAt (intKind prog w) d kvr ep := fun g => ⟨o, es, g, d1, d2, d3⟩
 refine wpAny_pyIter_items ⟨oe, R1.r.kz _ _ he, hc, hd⟩ (at_ (R1.r.kz _ _ hz)) ?_
 have hnone := get?_size s1.heap
 have hBI := (R1.r.fresh hnone).1
 have hfs := R1.r.notfs hnone
 have R0 := R1.hold (obj := itObj d 0 kvr.length ep .none .none .none) (t := s1.toks) hnone (fun _ _ e => Heap.get?_push_of_some _ e) (Heap.get?_push_size _ rfl)
 have hlen : kvs.length = kvr.length := hr.length
 refine codeAny_forLoop_any (fun n s => ∃ k m H Z2 ok ov, n = kvs.length - k ∧ k ≤ kvs.length ∧ Mem.Le Z1 Z2 ∧ RepF prog w s₀ (frs A) (B.put s1.heap.objs.size (itObj d k kvr.length ep .none ok ov)) Z2 env m H s ∧ J k m H) ?_ kvs.length
  ⟨0, m1, H1, Z1, .none, .none, rfl, Nat.zero_le _, Mem.Le.refl _, R0, h0⟩
 clear R0
 generalize s1.heap.objs.size = I at *
 rintro n s xq
 walk_at "n,s|xq"
 walk_at "xq,k,m,H,Z2|xq"
 walk_at "xq,ok,ov|xq"
 obtain ⟨rfl, hle, l2, R2, hJ⟩ := xq
 have hobj : IsItemIter s.heap I d k kvr.length ep ok ov := by
  obtain ⟨o', g, q⟩ := R2.r.kb _ _ (Mem.put_self ..)
  rw [q.exact itObj_no.2] at g; exact g
 have hgd := R2.r.kz _ _ (l2 _ _ hz)
 by_cases hlt : k < kvs.length
 ·obtain ⟨⟨ki, u⟩, hx⟩ : ∃ p, kvs[k]? = some p := ⟨_, List.getElem?_eq_getElem hlt⟩
  walk_at "ki,u|hx"
  obtain ⟨⟨kj, y⟩, hy⟩ : ∃ p, kvr[k]? = some p := ⟨_, List.getElem?_eq_getElem (hlen ▸ hlt)⟩
  walk_at "kj,y|hy"
  obtain ⟨rfl, hu⟩ := hr.get hx hy
  refine wpAny_pyNext_items_item hobj (at_ hgd) hy fun key h' hkey hout htup hsz hkeep => ?_
  walk_at "key,h'|hkey,hout,htup,hsz,hkeep"
  have fT := R2.r.fresh (get?_size s.heap)
  have nT := R2.r.notfs (get?_size s.heap)
  have nf : ¬ frameAt env s.heap.objs.size := fun hf => by
   obtain ⟨_, _, _, o, ho⟩ := R2.f.at hf
   rw [get?_size] at ho; (first | obtain ⟨_, rfl⟩ := ho.inv | cases ho)
  have hIT : s.heap.objs.size ≠ I := fun q => by rw [← q] at hobj; rw [IsItemIter, get?_size] at hobj; (first | obtain ⟨_, rfl⟩ := hobj.inv | cases hobj)
  have R3 := R2.turnIt (t := s.toks) hfs hBI itObj_no.1 hkeep hout
  have hBT : (B.put I (itObj d (k + 1) kvr.length ep (rawInt s.heap.objs.size) key y)) s.heap.objs.size = none := by
   have := fT.1; unfold Mem.put at this ⊢; rw [if_neg hIT] at this ⊢; exact this
  have R4 := R3.adoptZ htup hBT fT.2.1 fT.2.2 nT nf
  have l3 := Mem.le_put fT.2.1 { cls := .type "tuple", data := .seq #[key, y] }
  refine wpAny_letOwnedTupleGo_items hout fun h2 hin hsb => ?_
  walk_at "h2|hin,hsb"
  have R5 := R4.turnIt (h' := h2) (t := s.toks) hfs hBI itObj_no.1 (fun b o hb e => hsb.extBut b o hb e) hin
  have xq := isInt_of hkey
  walk_at "xq,tk|xq"
  obtain rfl := xq
  have hv : Rv prog w (Z2.put s.heap.objs.size { cls := .type "tuple", data := .seq #[.int kj tk, y] }) (.tup [.int kj, u]) (.ref s.heap.objs.size) :=
   .tup _ _ _ [.int kj tk, y] (Mem.put_self ..) ⟨0, rfl⟩ (.cons _ _ _ _ (.int _ _) (.one (hu.mono (l2.trans l3))))
  refine wpAny_mono ((hturn k _ _ m H hx hJ).run _ _ _ _ R5 hv) ?_ (fun _ _ x => x.elim)
  rintro _ s3 ⟨m3, H3, Z3, l4, R6, h3⟩
  walk_at "s3,m3,H3,Z3|l4,R6,h3"
  refine wpAny_mono (h3.run _ Z3 s3 R6) ?_ (fun _ _ x => x.elim)
  rintro f s4 ⟨g, m4, H4, Z4, l5, R7, v4, h4⟩
  walk_at "f,s4,g,m4,H4,Z4|l5,R7,v4,h4"
  have R8 := R7.heldIt (h' := s4.heap) (t := s4.toks) hfs hBI itObj_no.1 (fun _ _ _ e => e)
  have lx := l2.trans (l3.trans (l4.trans l5))
  have ll := l1.trans lx
  cases v4 with
  | next => exact ⟨kvs.length - (k + 1), by exact o12 hlt, k + 1, m4, H4, Z4, _, _, rfl, hlt, lx, R7, h4⟩
  | cont => exact ⟨kvs.length - (k + 1), by exact o12 hlt, k + 1, m4, H4, Z4, _, _, rfl, hlt, lx, R7, h4⟩
  | brk => exact ⟨.next, m4, H4, Z4, ll, R8, .next, h4⟩
  | ret v x hx => exact ⟨.ret v, m4, H4, Z4, ll, R8, .ret v x hx, h4⟩
 ·have hk' : k = kvs.length := Nat.le_antisymm hle (Nat.not_lt.mp hlt)
  subst hk'
  refine wpAny_pyNext_items_end hh hobj (at_ hgd) (by rw [hlen]; simp) fun h2 hk2 => ?_
  have R3 := R2.heldIt (h' := h2) (t := s.toks) hfs hBI itObj_no.1 (fun b o hb e => hk2 b o hb e)
  exact wpAny_execs_nil ⟨.next, m, H, Z2, l1.trans l2, R3, .next, hend m H hJ⟩
end
section
open PySem PySem.W PyProof.Rows PySem.Calls

/-! del d[k] -/
noncomputable def ddel (kvs : List (Int × V)) (k : Int) : List (Int × V) := kvs.filter fun kv => decide (kv.1 ≠ k)
theorem Rks.del {kvs : List (Int × V)} {kvr : List (Int × Value)} (h : Rks prog w Z kvs kvr) (k : Int) : Rks prog w Z (ddel kvs k) (without kvr k) := by
 unfold ddel without
 induction kvs generalizing kvr with
 | nil => (first | obtain ⟨_, rfl⟩ := h.inv | cases h); exact .nil
 | cons p kvs ih =>
  cases h with
  | cons k' v x _ xs hv r =>
   rw [List.filter_cons, List.filter_cons]
   dsimp only
   split
   ·exact .cons _ _ _ _ _ hv (ih r)
   ·exact ih r
structure OpD (prog : Program) (w : World) (s₀ : Shared) (A : Around) (a b : V) (Q : Hp → Prop) (H : Hp) : Prop where
 run : ∀ B Z s x y, Rep prog w s₀ (frs A) B Z H s → Rv prog w Z a x → Rv prog w Z b y → wpAny (model prog w) A (delItem x y) (PP prog w s₀ (frs A) B Z fun _ => Q) NoE s
theorem OpD.dict {a : Addr} {kvs : List (Int × V)} {k : Int} {Q : Hp → Prop} (ha : H a = some (.dict kvs)) (hl : kvs.length ≤ sizeLine) (hk : dhas kvs k = true) (h : Q (H.put a (.dict (ddel kvs k)))) : OpD prog w s₀ A (.ref a) (.int k) Q H := by
 walk_at "prog,w,s₀,H,A,a,kvs,k,Q|ha,hl,hk,h"
 refine .mk ?_
 intro B Z s x y R hx hy
 walk_at "B,Z,s,x,y|R,hx,hy"
 obtain ⟨_, rfl⟩ := hx.inv
 have xq := hy.inv
 walk_at "xq,t|xq"
 obtain rfl := xq
 obtain ⟨_, _, obj, hg, ⟨kvr, ho, hr⟩, hm⟩ := R.own _ _ ha
 walk_at "obj,kvr|hg,ho,hr"
 have hD : s.heap.DictOf (intKind prog w) a kvr := Heap.dictOf_iff.mpr ⟨obj, hg, ho⟩
 unfold delItem
 try with_reducible refine wpAny_holding ?_
 refine wpAny_bind (wpAny_sequenceKey hD.typeIs (by decide) ?_)
 refine wpAny_bind (wpAny_callSpecial?_slot (name := Str.ofString "__delitem__") hD.typeIs PySem.F.slot_dict_delitem
  (call_meetsIn PySem.F.slot_dict_delitem hD.typeIs PySem.F.entry_dict_delitem (PySem.F.args_dict_delitem_2 _ _) (meets_dict_delitem_pairs (intKind prog w) a (intKind_is prog w k _)) ⟨kvr, hD, by rw [← hr.length]; exact hl, by rw [hr.has]; exact hk, fun h' hmm hs => ?_⟩))
 obtain ⟨o', ho', hd'⟩ := Heap.dictOf_iff.mp hmm
 exact wpAny_pure ⟨_, Z, Mem.Le.refl _, R.set (o := .dict (ddel kvs k)) (t := s.toks + 1) ha hs ho' ⟨_, hd', hr.del k⟩, h⟩
theorem T1.del {o i pos pos'} {Q : Fl → Loc → Hp → Prop} (h : TE prog w s₀ A env o (fun ov m1 H1 => TE prog w s₀ A env i (fun iv m2 H2 => OpD prog w s₀ A ov iv (fun H3 => Q .next m2 H3) H2) m1 H1) m H) :
  T1 prog w s₀ A env (.Delete [.Subscript o i pos'] pos) Q m H := by
 walk_at "prog,w,s₀,H,env,m,A,o,i,pos,pos',Q|h"
 refine .mk ?_
 intro B Z s R
 walk_at "B,Z,s|R"
 refine wpAny_Delete (wpAny_deleteEach_cons (delete_Subscript (wpAny_mono (h.run B Z s R) ?_ idE)))
 rintro x s1 ⟨a, m1, H1, Z1, l1, R1, v1, h1⟩
 refine wpAny_mono (h1.run B Z1 s1 R1) ?_ idE
 rintro y s2 ⟨b, m2, H2, Z2, l2, R2, v2, h2⟩
 refine wpAny_mono (R2.opP (Q' := fun _ m3 H3 => m3 = m2 ∧ Q .next m2 H3) (h2.run _ Z2 s2 x y R2.enter (v1.mono l2) v2) fun _ _ q => ⟨rfl, q⟩) ?_ idE
 rintro _ s3 ⟨m3, H3, Z3, l3, R3, rfl, h3⟩
 exact wpAny_deleteEach_nil ⟨.next, m3, H3, Z3, (l1.trans l2).trans l3, R3, .next, h3⟩

/-! bool(xs) -/
theorem meets_bool_list (l : Addr) (items : Array Value) (hfit : (items.size : Int) < 2 ^ 63) :
  Meets (Builtin.«bool.__new__» ⟨[.type "bool", .ref l], []⟩) (fun _ R s => s.heap.IsList l items ∧ ∀ tk, R (.ok (.ret (.bool (!items.isEmpty)))) { s with toks := tk }) :=
 Meets.of_wp fun prog w A R s hs => by
  obtain ⟨hl, hs⟩ := hs
  obtain ⟨hp, g, d, tk, os⟩ := s
  have f1 := F.conv_sub_bool
  repeat (any_goals (first | assumption | (with_reducible refine wpAny_truthy_list hl hfit ?_) | wp_step))
  all_goals first | exact ⟨_, rfl, hs _⟩ | exact hs _ | skip
theorem TC.bool_list {a : Addr} {xs : List V} {Q : V → Hp → Prop} (ha : H a = some (.list xs)) (hl : (xs.length : Int) < 2 ^ 63) (h : Q (.bool (!xs.isEmpty)) H) : TC prog w s₀ A (.raw (.type "bool")) [.ref a] Q H := by
 walk_at "prog,w,s₀,H,A,a,xs,Q|ha,hl,h"
 refine .mk ?_
 intro B Z s f ys R hf hy
 walk_at "B,Z,s,f,ys|R,hf,hy"
 obtain ⟨_, rfl⟩ := hf.inv
 have xq := hy.inv1
 walk_at "xq,x|xq"
 obtain ⟨rfl, hx⟩ := xq
 obtain ⟨_, rfl⟩ := hx.inv
 obtain ⟨_, _, obj, hg, ⟨items, so, hi⟩, _⟩ := R.own _ _ ha
 have hlen := hi.length
 have e : items.toArray.isEmpty = xs.isEmpty := by (first | obtain ⟨_, rfl⟩ := xs.inv | cases xs) <;> (first | obtain ⟨_, rfl⟩ := items.inv | cases items) <;> simp_all
 refine call_bool_1 (meets_bool_list a items.toArray (by simp; exact o11 hl hlen)) ⟨isList_of hg so, fun tk => ⟨rfl, ?_⟩⟩
 rw [e]; exact .tok R (.bool _) h

/-! a, b = b, a -/
theorem T1.assign_swap (hk : EnvOk env) {elts k tpos value pos} {x y : Str} {Q : Fl → Loc → Hp → Prop} (hh : A.handled = none) (hx : stored? env x = true) (hy : stored? env y = true)
  (h : TE prog w s₀ A env value (fun v m1 H1 => ∃ u1 u2, v = .tup [u1, u2] ∧ Q .next ((m1.put y u2).put x u1) H1) m H)
  (hw : swappedStores [.Tuple elts k tpos] value env = pure (some [x, y])) (hs : swapsWithSole [.Tuple elts k tpos] value pos.line env = pure false := by rfl) :
  T1 prog w s₀ A env (.Assign [.Tuple elts k tpos] value pos) Q m H := by
 walk_at "prog,w,s₀,H,env,m,A,elts,k,tpos,value,pos,x,y,Q|hk,hh,hx,hy,h,hw,hs"
 refine .mk ?_
 intro B Z s R
 walk_at "B,Z,s|R"
 refine Assign_Tuple_swapped (wpAny_mono (h.run B Z s R) ?_ idE) hs hw
 rintro v s1 ⟨_, m1, H1, Z1, l1, R1, v1, u1, u2, rfl, h1⟩
 walk_at "v,s1,m1,H1,Z1,u1,u2|l1,R1,h1,v1"
 have xq := v1.inv
 walk_at "xq,t,o,items|xq"
 obtain ⟨rfl, hz, ho, hr⟩ := xq
 have xq := hr.two
 walk_at "xq,x1,x2|xq"
 obtain ⟨rfl, r1, r2⟩ := xq
 obtain ⟨hc, hd, n, hdat⟩ := ho.parts
 walk_at "n|hdat"
 refine unpackItems_tuple (items := #[x1, x2]) hh ⟨o, R1.r.kz _ _ hz, hc, n, hdat⟩ fun h' hs' => ?_
 walk_at "h'|hs'"
 have R2 : RepF prog w s₀ (frs A) B Z1 env m1 H1 { s1 with heap := h' } := R1.back (R1.enter.keeps (t := s1.toks) fun b o e => hs' b o (Nat.ne_of_lt (Heap.lt_size e)) e) (Mem.Le.refl _)
 refine wpAny_bind (wpAny_holding (wpAny_mono (wpAny_bindName (store_any (Q := fun _ m2 H2 => m2 = m1.put y u2 ∧ H2 = H1) hk hy r2 ⟨rfl, rfl⟩ R2)) ?_ idE))
 rintro _ s2 ⟨_, _, Z2, l2, R3, rfl, rfl⟩
 refine wpAny_bind (wpAny_holding (wpAny_mono (wpAny_bindName (store_any (Q := fun _ m2 H2 => m2 = (m1.put y u2).put x u1 ∧ H2 = _) hk hx (r1.mono l2) ⟨rfl, rfl⟩ R3)) ?_ idE))
 rintro _ s3 ⟨_, _, Z3, l3, R4, rfl, rfl⟩
 exact wpAny_pure ⟨.next, _, _, Z3, l1.trans (l2.trans l3), R4, .next, h1⟩

/-! f'..' with nothing in it -/
theorem TE.joined1 {v : Expr} {pos : Pos} {Q : V → Loc → Hp → Prop} (h : TE prog w s₀ A env v Q m H) : TE prog w s₀ A env (.JoinedStr [v] pos) Q m H := .mk fun B Z s R => JoinedStr_one (h.run B Z s R)

/-! starred arguments -/
theorem TL.star {pos p : Pos} {e : Expr} {es : List Expr} {Q : List V → Loc → Hp → Prop} (h : TE prog w s₀ A env e (fun v m1 H1 => ∃ us, v = .lst us ∧ us.length ≤ sizeLine ∧ TL prog w s₀ A env pos es (fun vs m2 H2 => Q (us ++ vs) m2 H2) m1 H1) m H)
  (he : starEach (.Starred e p :: es) env = (true, eval e env) :: starEach es env := by rfl) : TL prog w s₀ A env pos (.Starred e p :: es) Q m H := by
 walk_at "prog,w,s₀,H,env,m,A,pos,p,e,es,Q|h,he"
 refine .mk ?_
 intro B Z s R
 walk_at "B,Z,s|R"
 refine items_star (wpAny_mono (h.run B Z s R) ?_ idE) he
 rintro x s1 ⟨_, m1, H1, Z1, l1, R1, v1, us, rfl, hl, h1⟩
 walk_at "x,s1,m1,H1,Z1,us|l1,R1,v1,hl,h1"
 have xq := v1.inv
 walk_at "xq,a,o,items|xq"
 obtain ⟨rfl, hz, ho, hr⟩ := xq
 obtain ⟨hc, hd, n, hdat⟩ := ho.parts
 walk_at "n|hdat"
 have g := R1.r.kz _ _ hz
 have hT : s1.TypeIs (.ref a) "list" := ⟨o, g, hc⟩
 unfold StarOf notIterableAtAll
 refine wpAny_bind (wpAny_specialOf hT PySem.F.slot_list_iter.lookup (wpAny_pure ⟨rfl, ?_⟩))
 refine wpAny_collect_seq a (.inl rfl) g hc hdat (fun h' hk => ?_) (by simp [← hr.length]; exact hl)
 have R2 : RepF prog w s₀ (frs A) B Z1 env m1 H1 { s1 with heap := h' } := R1.back (R1.enter.keeps (t := s1.toks) hk) (Mem.Le.refl _)
 refine wpAny_mono (h1.run B Z1 _ R2) ?_ idE
 rintro xs s2 ⟨vs, m2, H2, Z2, l2, R3, v2, h2⟩
 exact ⟨us ++ vs, m2, H2, Z2, l1.trans l2, R3, (by simpa using (hr.mono l2).append v2), h2⟩
theorem Op1.bound {K : Frag} (X : K.In s₀.heap) {S C D fa : Addr} {f : List (Str × V)} {name : Str} (k : MethK K C name fa) (hh : hasDictIn K C = true) (hg : specialIn K (.ref fa) "__get__" = some (some (.builtin "function.__get__"))) (ht : takesIn K (.ref fa) = some false)
  (hcp : copiedNames.contains name = false) (hS : H S = some (.inst C D)) (hD : H D = some (.ns f)) (hv : fget f name = none) {expr : Bool} {Q : V → Hp → Prop} (h : Q (.bm fa S) H) : Op1 prog w s₀ A (fun o => getAttr o name expr) (.ref S) Q H := by
 walk_at "prog,w,s₀,H,A,K,S,C,D,fa,f,name,expr,Q|X,k,hh,hg,ht,hcp,hS,hD,hv,h"
 refine .mk ?_
 intro B Z s x R hx
 walk_at "B,Z,s,x|R,hx"
 obtain ⟨_, rfl⟩ := hx.inv
 have xq := R.inst hS hD
 walk_at "xq,es,n|xq"
 obtain ⟨hgt, hr, I⟩ := xq
 have X' := Own.at X R
 rcases hr.get name with ⟨_, e, _⟩ | ⟨v', x, e1, _⟩
 ·have hf : findObj K C (some (dictOf es n)) name = some (.bind (.builtin "function.__get__") (.ref fa)) := by
   obtain ⟨cd, hc', hd⟩ := any_some hh
   have ho : W.ownOf cd (some (dictOf es n)) name = some none := by unfold W.ownOf; rw [if_pos hd]; exact e
   unfold findObj
   rw [hc', Option.bind_some, k.f, Option.bind_some]
   simp only [hg, ht, ho, hcp, Option.bind_some, Bool.false_and, Bool.false_eq_true, if_false]
  refine get_bind X' I (plainGet_of k.g).1 hf (plainGet_of k.g).2 (wpAny_call (fn_get (s := { s with toks := s.toks + 1 }) X' (beq_iff_eq.mp k.t) (handed_on rfl ?_)))
  exact .newZ (R.tok (s.toks + 1)) (t := s.toks + 1) (get?_size _) (fun _ _ e => Heap.get?_push_of_some _ e) (Heap.get?_push_size _ rfl) (.bm fa S _ _ (Mem.put_self ..) rfl) h
 ·rw [hv] at e1; (first | obtain ⟨_, rfl⟩ := e1.inv | cases e1)
theorem TCd.bm {fa S : Addr} {vs : List V} {Q : V → Hp → Prop} (h : TCd prog w s₀ A (.raw (.ref fa)) (.ref S :: vs) Q H) : TCd prog w s₀ A (.bm fa S) vs Q H := .mk fun B Z s x xs R hx hv => by
 obtain ⟨b, o, rfl, hz, rfl⟩ := hx.inv
 exact method_call (R.kz _ _ hz) (h.run B Z s _ _ R (.raw _) (.cons _ _ _ _ (.ref S) hv))
theorem TE.meth_star {K : Frag} (X : K.In s₀.heap) {o : Expr} {name : Str} {apos pos : Pos} {args : List Expr} {Q : V → Loc → Hp → Prop}
  (h : TE prog w s₀ A env o (fun ov m1 H1 => Op1 prog w s₀ A (fun x => getAttr x name true) ov (fun f H2 => ∃ fa S, f = .bm fa S ∧ fnIn K fa = true ∧ TL prog w s₀ A env pos args (fun vs m2 H3 => TC prog w s₀ A (.bm fa S) vs (fun v H4 => Q v m2 H4) H3) m1 H2) H1) m H)
  (hcal : ∀ ov, calleeOf false o env ov name = (do pure (← getAttr ov name true, [])) := by intro; rfl)
  (hbase : attributeBase o name env (eval o env) = eval o env := by rfl)
  (hform : methodCallForm (args.length + ([] : List Keyword).length) (backTo pos (starEach args env)) (backToKw pos (keywordEach [] env)) = false := by rfl)
  (hp : (backTo pos (starEach args env)).any (·.1) = true := by rfl)
  (hl : ∀ {M : Model} {A : Around} {f : Value} {s : Shared} {Q : Args → Shared → Prop} {E : Value → Shared → Prop}, wpAny M A (spliced (backTo pos (starEach args env))) (fun vs s' => Q ⟨vs, []⟩ s') E s → wpAny M A (evalArgs f true (backTo pos (starEach args env)) []) Q E s := by intros; exact Calls.evalArgs_plain (by assumption)) :
  TE prog w s₀ A env (.Call (.Attribute o name apos) args [] pos) Q m H := by
 walk_at "prog,w,s₀,H,env,m,A,K,o,name,apos,pos,args,Q|X,h,hcal,hbase,hform,hp,hl"
 refine .mk ?_
 intro B Z s R
 walk_at "B,Z,s|R"
 rw [arm_eval_Call, hbase]
 refine wpAny_bind (wpAny_mono (h.run B Z s R) ?_ idE)
 rintro x s1 ⟨ov, m1, H1, Z1, l1, R1, v1, h1⟩
 walk_at "x,s1,ov,m1,H1,Z1|l1,R1,v1,h1"
 refine wpAny_bind (wpAny_standAt ?_)
 unfold methodCall
 rw [hform, hcal]
 refine wpAny_bind (wpAny_holding (wpAny_bind (wpAny_mono (h1.run _ Z1 s1 x R1.enter v1) ?_ idE)))
 rintro f s2 ⟨_, H2, Z2, l2, R2, v2, fa, S, rfl, hfn, h2⟩
 walk_at "f,s2,H2,Z2,fa,S|l2,R2,v2,hfn,h2"
 refine wpAny_pure (wpAny_bind (wpAny_pure ?_))
 obtain ⟨b, o, rfl, hz, rfl⟩ := v2.inv
 have R3 := R1.back R2 l2
 refine ks_call (P := fun hp => (∀ b o, s₀.heap.get? b = some o → hp.get? b = some o) ∧ hp.get? b = some { cls := .type "method", data := .fields #[.ref fa, .ref S] }) hp (fun hp q => keeps_M hfn hp ⟨q.2, fun a o e => q.1 a o (X a o e)⟩) (hl (wpAny_mono (h2.run B Z2 s2 R3) ?_ idE))
 rintro xs s3 ⟨vs, m3, H3, Z3, l3, R4, v3, h3⟩
 refine ⟨⟨R4.r.kept0, R4.r.kz _ _ (l3 _ _ hz)⟩, ?_⟩
 exact wpAny_mono (R4.opV (h3.run _ Z3 s3 (.ref b) xs R4.enter (.bm fa S b _ (l3 _ _ hz) rfl) v3) fun _ _ q => q) (fun _ _ q => PE.le (l1.trans (l2.trans l3)) q) idE
end
section
open PySem PySem.W PyProof.Rows PySem.Calls Builtin Builtin.ObjectAttr
namespace N
theorem slot_ga : Slot "list_iterator" "__getattribute__" "object.__getattribute__" :=
 .of (owner := "object") (n := "__getattribute__") (by rw [typeLookup_type, builtinLookup_eq_fast]; kernel_rfl) (by decide +kernel) (by decide +kernel) (by decide +kernel)
  (by first | exact .inl (by decide +kernel) | exact .inr (by decide +kernel)) (by rw [isSubtype_type]; kernel_rfl)
theorem entry_ga : entryFor table "object.__getattribute__" = some Builtin.«object.__getattribute__» := entryFor_of_tree (by kernel_rfl)
theorem args_ga (a b : Value) : argsOk "object.__getattribute__" ⟨[a, b], []⟩ := by unfold argsOk; kernel_rfl
theorem type_nx : typeOf (.builtin "list_iterator.__next__") = pure (.type "wrapper_descriptor") := by show builtinType _ = _; rw [builtinType_eq_fast]; kernel_rfl
theorem look_nx : typeLookup (.type "list_iterator") "__next__" = pure (some (.builtin "list_iterator.__next__")) := by rw [typeLookup_type, builtinLookup_eq_fast]; kernel_rfl
theorem slot_wd : Slot "wrapper_descriptor" "__get__" "wrapper_descriptor.__get__" :=
 .of (owner := "wrapper_descriptor") (n := "__get__") (by rw [typeLookup_type, builtinLookup_eq_fast]; kernel_rfl) (by decide +kernel) (by decide +kernel) (by decide +kernel)
  (by first | exact .inl (by decide +kernel) | exact .inr (by decide +kernel)) (by rw [isSubtype_type]; kernel_rfl)
theorem entry_wd : entryFor table "wrapper_descriptor.__get__" = some Builtin.«wrapper_descriptor.__get__» := entryFor_of_tree (by kernel_rfl)
theorem args_wd (a b c : Value) : argsOk "wrapper_descriptor.__get__" ⟨[a, b, c], []⟩ := by unfold argsOk; kernel_rfl
theorem set_wd : typeLookup (.type "wrapper_descriptor") "__set__" = pure none := by rw [typeLookup_type, builtinLookup_eq_fast]; kernel_rfl
theorem del_wd : typeLookup (.type "wrapper_descriptor") "__delete__" = pure none := by rw [typeLookup_type, builtinLookup_eq_fast]; kernel_rfl
theorem sub_li : isSubtype (.type "list_iterator") (.type "list_iterator") = pure true := by rw [isSubtype_type]; kernel_rfl
theorem owner_nx : (".".intercalate ("list_iterator.__next__".cutAt '.').dropLast) = "list_iterator" := by
 have e0 : "list_iterator.__next__".cutAt '.' = ["list_iterator", "__next__"] := by first | rfl | decide +kernel
 rw [e0]; decide +kernel
end N
section
variable {E : Value → Shared → Prop} {h : Heap} {g : Array GenState} {d : Drawn} {t : Nat} {os : OsState} {a : Addr} {o : Obj} {vs : Array Value}
theorem nx_get {R : Result → Shared → Prop} (hx : h.get? a = some { cls := .type "list_iterator", data := .fields vs }) (hq : R (.ok (.ret (.ref h.objs.size))) ⟨h.push { cls := .type "method-wrapper", data := .fields #[.builtin "list_iterator.__next__", .ref a] }, g, d, t, os⟩) :
  codeAny (model prog w) A (.call (.builtin "wrapper_descriptor.__get__") ⟨[.builtin "list_iterator.__next__", .ref a, .type "list_iterator"], []⟩) R ⟨h, g, d, t, os⟩ := by
 walk_at "prog,w,A,h,g,d,t,os,a,vs,R|hx,hq"
 have hT : (⟨h, g, d, t, os⟩ : Shared).TypeIs (.ref a) "list_iterator" := ⟨_, hx, rfl⟩
 have hT5 : (⟨h, g, d, t, os⟩ : Shared).TypeIs (.builtin "list_iterator.__next__") "wrapper_descriptor" := N.type_nx
 have f8 : isSubtype (.type "list_iterator") (.type (".".intercalate ("list_iterator.__next__".cutAt '.').dropLast)) = pure true := by rw [N.owner_nx]; exact N.sub_li
 refine codeAny_call_builtin N.slot_wd.plain N.entry_wd (N.slot_wd.check _ _ _ _ _ _ _ _ hT5 (N.args_wd _ _ _) ?_)
 repeat (any_goals (first | assumption | wp_step))
theorem nx_entry {tk : Tok} {Q : Fin → Shared → Prop} (hx : h.get? a = some { cls := .type "list_iterator", data := .fields vs }) (hq : Q (.done (.ret (.ref h.objs.size))) ⟨h.push { cls := .type "method-wrapper", data := .fields #[.builtin "list_iterator.__next__", .ref a] }, g, d, t, os⟩) :
  wpAny (model prog w) A (Builtin.«object.__getattribute__» ⟨[.ref a, .str "__next__" tk], []⟩) Q E ⟨h, g, d, t, os⟩ := by
 walk_at "prog,w,A,E,h,g,d,t,os,a,vs,tk,Q|hx,hq"
 have hT : (⟨h, g, d, t, os⟩ : Shared).TypeIs (.ref a) "list_iterator" := ⟨_, hx, rfl⟩
 have hT5 : (⟨h, g, d, t, os⟩ : Shared).TypeIs (.builtin "list_iterator.__next__") "wrapper_descriptor" := N.type_nx
 have f4 := N.look_nx
 have f5 := N.type_nx
 have f6 := N.slot_wd.lookup
 have f7 := N.set_wd
 have f8 := N.del_wd
 unfold Builtin.«object.__getattribute__»
 repeat (any_goals (first | assumption | wp_step))
 refine nx_get hx ?_
 repeat (any_goals (first | assumption | wp_step))
theorem nx_attr {expr : Bool} {Q : Value → Shared → Prop} (hx : h.get? a = some { cls := .type "list_iterator", data := .fields vs }) (hq : Q (.ref h.objs.size) ⟨h.push { cls := .type "method-wrapper", data := .fields #[.builtin "list_iterator.__next__", .ref a] }, g, d, t + 1, os⟩) :
  wpAny (model prog w) A (getAttr (.ref a) "__next__" expr) Q E ⟨h, g, d, t, os⟩ := by
 walk_at "prog,w,A,E,h,g,d,t,os,a,vs,expr,Q|hx,hq"
 have hT : ∀ tk, (⟨h, g, d, tk, os⟩ : Shared).TypeIs (.ref a) "list_iterator" := fun _ => ⟨_, hx, rfl⟩
 have hT' := hT (t + 1)
 have f2 := N.slot_ga.lookup
 have f3 := N.slot_ga.bind (.ref a)
 have f4 := N.look_nx
 have f5 := N.type_nx
 have f6 := N.slot_wd.lookup
 have f7 := N.set_wd
 have f8 := N.del_wd
 have hx0 : (expr && onTheHeap (Value.builtin "object.__getattribute__")) = false := by (first | obtain ⟨_, rfl⟩ := expr.inv | cases expr) <;> rfl
 unfold getAttr
 repeat (any_goals (first | assumption | wp_step))
 refine codeAny_call_builtin N.slot_ga.plain N.entry_ga (N.slot_ga.check _ _ _ _ _ _ _ _ hT' (N.args_ga _ _) (nx_entry hx ?_))
 repeat (any_goals (first | assumption | wp_step))
end

structure NewX (h h' : Heap) (e : Addr) (cls : String) : Prop where
 keeps : ∀ b o, h.get? b = some o → h'.get? b = some o
 new : h.get? e = none
 there : ∃ ob vs t, h'.get? e = some ob ∧ ob.cls = .type cls ∧ ob.data = .fields vs ∧ vs[0]? = some t ∧ vs[1]? = some .none
namespace N
theorem plain_nx : plainId "list_iterator.__next__" = true := by decide +kernel
theorem bound_nx (a : Value) : checkBoundCall "list_iterator.__next__" ⟨[a], []⟩ = pure () := by kernel_rfl
end N
section
variable {prog : Program} {w : World} {A : Around} {E : Value → Shared → Prop} {s : Shared} {b it l : Addr}
theorem nx_open {R : Result → Shared → Prop} (hb : s.heap.get? b = some { cls := .type "method-wrapper", data := .fields #[.builtin "list_iterator.__next__", .ref it] })
  (h : wpAny (model prog w) A.in1 (Builtin.«list_iterator.__next__» ⟨[.ref it], []⟩) (fun fin s' => match fin with | .done f => R (.ok f) s' | .again c' => c'.quiet = true ∧ codeAny (model prog w) A c' R s') (fun e s' => R (.error e) s') s) :
  codeAny (model prog w) A (.call (.ref b) ⟨[], []⟩) R s := by
 refine codeAny_of_tree ?_
 show wpAny _ _ (callAny (.ref b) _) _ _ _
 refine wpAny_bind (m := load b) (wpAny_load hb ?_)
 show wpAny _ _ (checkBoundCall "list_iterator.__next__" ⟨[.ref it], []⟩ >>= _) _ _ _
 refine wpAny_bind (wpAny_of_eq (N.bound_nx _) ?_)
 refine wpAny_bind (m := again _) (wpAny_pure (wpAny_pure ?_))
 refine ⟨plainId_quiet N.plain_nx _, codeAny_builtin entry_listiter_next ?_⟩
 rw [Around.under_plainId N.plain_nx]
 exact h
theorem nx_item {R : Result → Shared → Prop} {i : Nat} {items : Array Value} {x : Value} (hb : s.heap.get? b = some { cls := .type "method-wrapper", data := .fields #[.builtin "list_iterator.__next__", .ref it] })
  (hit : s.heap.get? it = some { cls := .type "list_iterator", data := .fields #[.ref l, .int i 0] }) (hl : s.heap.IsList l items) (hx : items[i]? = some x)
  (hQ : ∀ h', h'.get? it = some { cls := .type "list_iterator", data := .fields #[.ref l, .int (i + 1 : Nat) 0] } → Heap.SameBut it s.heap h' → R (.ok (.ret x)) { s with heap := h' }) :
  codeAny (model prog w) A (.call (.ref b) ⟨[], []⟩) R s := by
 walk_at "prog,w,A,s,b,it,l,R,i,items,x|hb,hit,hl,hx,hQ"
 refine nx_open hb ?_
 walk_at "hl,ol|hl"
 obtain ⟨hol, -, hl⟩ := hl
 walk_at "hl,nl|hl"
 have hdl := hl
 clear hl
 show wpAny _ _ (field (.ref it) 0 >>= _) _ _ s
 refine wpAny_bind (wpAny_field hit rfl (x := .ref l) rfl ?_)
 show wpAny _ _ (if (Value.ref l == Value.none) = true then _ else _) _ _ s
 rw [if_neg (show ¬ ((Value.ref l == Value.none) = true) from Bool.false_ne_true)]
 show wpAny _ _ (field (.ref it) 1 >>= _) _ _ s
 refine wpAny_bind (wpAny_field hit rfl (x := .int i 0) rfl ?_)
 show wpAny _ _ (seqItems? (.ref l) >>= _) _ _ s
 refine wpAny_bind (wpAny_seqItems hol hdl ?_)
 simp only [Int.toNat_natCast, hx]
 refine wpAny_bind (wpAny_setField hit rfl (by simp) (wpAny_pure (hQ _ ?_ (Heap.SameBut.update ..))))
 rw [Heap.get?_update_self _ hit (Obj.isFreed_of_fields (Obj.data_mapFields rfl _))]
 simp [Obj.mapFields, rawInt]
theorem nx_end {R : Result → Shared → Prop} {i : Nat} {items : Array Value} (hh : A.handled = none) (hb : s.heap.get? b = some { cls := .type "method-wrapper", data := .fields #[.builtin "list_iterator.__next__", .ref it] })
  (hit : s.heap.get? it = some { cls := .type "list_iterator", data := .fields #[.ref l, .int i 0] }) (hl : s.heap.IsList l items) (hx : items[i]? = none)
  (hQ : ∀ h₁ h' e, Heap.SameBut it s.heap h₁ → (∃ o, h₁.get? it = some o) → NewX h₁ h' e "StopIteration" → R (.error (.ref e)) { s with heap := h' }) :
  codeAny (model prog w) A (.call (.ref b) ⟨[], []⟩) R s := by
 walk_at "prog,w,A,s,b,it,l,R,i,items|hh,hb,hit,hl,hx,hQ"
 refine nx_open hb ?_
 walk_at "hl,ol|hl"
 obtain ⟨hol, -, hl⟩ := hl
 walk_at "hl,nl|hl"
 have hdl := hl
 clear hl
 show wpAny _ _ (field (.ref it) 0 >>= _) _ _ s
 refine wpAny_bind (wpAny_field hit rfl (x := .ref l) rfl ?_)
 show wpAny _ _ (if (Value.ref l == Value.none) = true then _ else _) _ _ s
 rw [if_neg (show ¬ ((Value.ref l == Value.none) = true) from Bool.false_ne_true)]
 show wpAny _ _ (field (.ref it) 1 >>= _) _ _ s
 refine wpAny_bind (wpAny_field hit rfl (x := .int i 0) rfl ?_)
 show wpAny _ _ (seqItems? (.ref l) >>= _) _ _ s
 refine wpAny_bind (wpAny_seqItems hol hdl ?_)
 simp only [Int.toNat_natCast, hx]
 refine wpAny_bind (wpAny_rule (wpAny_bind (wpAny_setField hit rfl (by simp) ?_)))
 have g := Heap.get?_update_self (Obj.mapFields (·.setIfInBounds 0 Value.none)) hit (Obj.isFreed_of_fields (Obj.data_mapFields rfl _))
 show wpAny _ _ (newExc (.type "StopIteration") [] >>= _) _ _ _
 refine wpAny_bind ?_
 simp only [newExc, newTuple]
 refine wpAny_bind (wpAny_newObj_type ?_ (by size_fits))
 refine wpAny_bind (m := firstArgMember _ _) (wpAny_of_eq (a := Value.none) (by first | rfl | (simp only [firstArgMember]; rfl)) ?_)
 refine wpAny_newObj_type ?_ (by size_fits)
 simp only [raiseNew]
 refine wpAny_bind (wpAny_handled ?_)
 rw [show A.in1.handled = none from hh]
 refine wpAny_bind (wpAny_pure (wpAny_throw ?_))
 refine hQ _ _ _ (Heap.SameBut.update ..) ⟨_, g⟩ ⟨fun b o e => Heap.get?_push_of_some _ (Heap.get?_push_of_some _ e), ?_, _, _, _, Heap.get?_push_size _ rfl, rfl, rfl, rfl, rfl⟩
 apply Option.eq_none_iff_forall_ne_some.mpr
 intro o q
 have q2 := Heap.lt_size q
 rw [Heap.size_push] at q2
 exact absurd (Nat.lt_of_succ_lt q2) (Nat.lt_irrefl _)
end
end
section
open PySem PySem.W PyProof.Rows PySem.Calls

/-! iter(xs).__next__ -/
theorem Op1.next_attr {a : Addr} {xs : List V} {i : Nat} {expr : Bool} {Q : V → Hp → Prop} (ha : H a = some (.iter xs i)) (h : Q (.nx a) H) : Op1 prog w s₀ A (fun o => getAttr o "__next__" expr) (.ref a) Q H := by
 walk_at "prog,w,s₀,H,A,a,xs,i,expr,Q|ha,h"
 refine .mk ?_
 intro B Z s x R hx
 walk_at "B,Z,s,x|R,hx"
 obtain ⟨_, rfl⟩ := hx.inv
 obtain ⟨_, _, obj, hg, ⟨l, ol, items, rfl, hz, so, hr⟩, _⟩ := R.own _ _ ha
 obtain ⟨hp, g, d, t, os⟩ := s
 refine nx_attr hg ?_
 exact .newZ R (t := t + 1) (get?_size _) (fun _ _ e => Heap.get?_push_of_some _ e) (Heap.get?_push_size _ rfl) (.nx a _ _ (Mem.put_self ..) rfl) h

/-! what a note on the frames leaves -/
theorem Rep.upto (R : Rep prog w s₀ fs B Z H s) {h' : Heap} {t : Nat} (hb : ∀ b o, b ∉ fs → s.heap.get? b = some o → h'.get? b = some o) (hu : s.heap.UpToSlots h') : Rep prog w s₀ fs B Z H { s with heap := h', toks := t } where
 kb a o e := by
  obtain ⟨o1, g, k⟩ := R.kb a o e
  by_cases ha : a ∈ fs
  ·obtain ⟨_, _, o2, es, n, g2, d2⟩ := R.fr a ha
   rw [g] at g2; (first | obtain ⟨_, rfl⟩ := g2.inv | cases g2)
   obtain ⟨sl, g3⟩ := hu a o1 g (fun vs q => by rw [d2] at q; (first | obtain ⟨_, rfl⟩ := q.inv | cases q))
   exact ⟨_, g3, k.trans (.inr ⟨⟨es, n, d2⟩, sl, rfl⟩)⟩
  ·exact ⟨o1, hb a o1 ha g, k⟩
 fr L e := by
  obtain ⟨x, y, o2, es, n, g2, d2⟩ := R.fr L e
  obtain ⟨sl, g3⟩ := hu L o2 g2 (fun vs q => by rw [d2] at q; (first | obtain ⟨_, rfl⟩ := q.inv | cases q))
  exact ⟨x, y, _, es, n, g3, d2⟩
 kz a o e := hb a o (fun ha => by have := (R.fr a ha).2.1; rw [e] at this; (first | obtain ⟨_, rfl⟩ := this.inv | cases this)) (R.kz a o e)
 dj := R.dj
 own a o e := let ⟨x, y, ob, z, u⟩ := R.own a o e; ⟨x, y, ob, hb a ob (fun ha => by have := (R.fr a ha).1; rw [e] at this; (first | obtain ⟨_, rfl⟩ := this.inv | cases this)) z, u⟩
 z0 := R.z0
 gens := R.gens
 os := R.os
 lim := R.lim
theorem RepF.upto (R : RepF prog w s₀ fs B Z env m H s) {h' : Heap} {t : Nat} (hb : ∀ b o, b ∉ fs → s.heap.get? b = some o → h'.get? b = some o) (hu : s.heap.UpToSlots h') : RepF prog w s₀ fs B Z env m H { s with heap := h', toks := t } where
 r := R.r.upto hb hu
 f := {
  ns := let ⟨mr, hn, hm⟩ := R.f.ns; ⟨mr, hu.ns hn, hm⟩
  lb := R.f.lb
  lz := R.f.lz
  lh := R.f.lh
  cell := fun x hx => by
   obtain ⟨c, a1, a8⟩ := R.f.cell x hx
   refine ⟨c, a1, ?_⟩
   rcases a8 with ⟨hlt, ov, ⟨oc, a2, a2'⟩, a3⟩ | r
   ·refine .inl ⟨hlt, ov, ⟨oc, hb c oc (fun hc => ?_) a2, a2'⟩, a3⟩
    obtain ⟨_, _, o2, es, n, g2, d2⟩ := R.r.fr c hc
    rw [a2] at g2; (first | obtain ⟨_, rfl⟩ := g2.inv | cases g2); rw [a2'] at d2; (first | obtain ⟨_, rfl⟩ := d2.inv | cases d2)
   ·exact .inr r
  apart := R.f.apart
  free := R.f.free }

structure Stk (A : Around) : Prop where
 ex : ∃ l, A.frames = some l ∧ ∀ e ∈ l, e.scope.kind ≠ .module ∧ ∃ L, e.frame = some L
theorem Stk.funFrames {l : List Env} (hl : A.frames = some l) (hk : ∀ e ∈ l, e.scope.kind ≠ .module ∧ ∃ L, e.frame = some L) {h base : Heap} (hf : ∀ L ∈ frs A, FrAt h L) (hb : ∀ L ∈ frs A, base.get? L = none) : h.FunFrames base l := by
 have key : ∀ l', (∀ e ∈ l', e ∈ l) → h.FunFrames base l' := by
  intro l'
  induction l' with
  | nil => intro _; exact trivial
  | cons e r ih =>
   intro hm
   have he := hm e (.head _)
   obtain ⟨h1, L, h2⟩ := hk e he
   have hL : L ∈ frs A := by unfold frs; rw [hl]; exact List.mem_filterMap.mpr ⟨e, he, h2⟩
   obtain ⟨o, es, n, g, d⟩ := hf L hL
   exact ⟨h1, ⟨L, o, h2, hb L hL, g, fun vs q => by rw [d] at q; (first | obtain ⟨_, rfl⟩ := q.inv | cases q)⟩, ih fun e he => hm e (.tail _ he)⟩
 exact key l fun _ h => h
theorem Stk.deeper (k : Stk A) {env : Env} {L : Addr} (h1 : env.scope.kind ≠ .module) (h2 : env.frame = some L) : Stk (A.deeper env) := by
 obtain ⟨l, a, b⟩ := k.ex
 refine ⟨env :: l, by unfold Around.deeper; rw [a]; rfl, fun e he => ?_⟩
 rcases List.mem_cons.mp he with rfl | he
 ·exact ⟨h1, L, h2⟩
 ·exact b e he
theorem hide_keep {h h' : Heap} {l : List Addr} (hs : (hideAll h l).StaysIn h') : ∀ b o, b ∉ l → h.get? b = some o → h'.get? b = some o := fun b o hb e => hs b o (hideAll_get l e hb)
theorem hide_in (h : Heap) (l : List Addr) : (hideAll h l).StaysIn h := fun b o e => of_hideAll l e
theorem stop_exc : isSubtype (.type "StopIteration") (.type "BaseException") = pure true := by rw [isSubtype_type]; kernel_rfl
theorem stop_tup : isSubtype (.type ((Manifest.find? "StopIteration").elim "type" fun x => x.metatype)) (.type "tuple") = pure false := by
 rw [show ((Manifest.find? "StopIteration").elim "type" fun x => x.metatype) = "type" from by kernel_rfl, isSubtype_type]; kernel_rfl
theorem stop_sub : isSubtype (.type "StopIteration") (.type "StopIteration") = pure true := by rw [isSubtype_type]; kernel_rfl
theorem T1.try_next (hE : EnvOk env) (G : Glo s₀ mg mb) (hh : A.handled = none) {outer : List Env} (hfr : A.frames = some (env :: outer)) (hst : ∀ e ∈ env :: outer, e.scope.kind ≠ .module ∧ ∃ L, e.frame = some L) {x : Str} (hsx : stored? env x = true)
  (hkx : env.kindOf (Str.ofString "StopIteration") = some .globalImplicit) (hgx : mg (Str.ofString "StopIteration") = none) {f : Expr} {px cpos pos1 bpos np hpos pos : Pos} {b₀ : Stmt} {suite : List Stmt} {Q : Fl → Loc → Hp → Prop}
  (h : TE prog w s₀ A env f (fun v m1 H1 => ∃ a xs i, v = .nx a ∧ H1 a = some (.iter xs i) ∧ (∀ u, xs[i]? = some u → Q .brk (m1.put x u) (H1.put a (.iter xs (i + 1)))) ∧
   (xs[i]? = none → ∀ e, TS prog w s₀ (A.mark (some (.ref e))) env (b₀ :: suite) Q m1 (H1.del a))) m H)
  (he : eval (.Call f [] [] cpos) env = (do callWith cpos (← eval f env) [] (backTo cpos (starEach [] env)) []) := by rfl)
  (hs : swapsWith (.Call f [] [] cpos) (some (.Name x px)) pos1.line env = pure false := by rfl) :
  T1 prog w s₀ A env (.Try [.Assign [.Name x px] (.Call f [] [] cpos) pos1, .Break bpos] [.ExceptHandler (some (.Name (Str.ofString "StopIteration") np)) none (b₀ :: suite) hpos] [] [] pos) Q m H := by
 walk_at "prog,w,s₀,H,env,m,A,mg,mb,outer,x,f,px,cpos,pos1,bpos,np,hpos,pos,b₀,suite,Q|hE,G,hh,hfr,hst,hsx,hkx,hgx,h,he,hs"
 refine .mk ?_
 intro B Z s R
 walk_at "B,Z,s|R"
 refine wpAny_Try_except (wpAny_execs_cons (wpAny_Assign_Name ?_ hs))
 rw [he]
 refine wpAny_bind (wpAny_mono (h.run B Z s R) ?_ (fun _ _ x => x.elim))
 rintro v s1 ⟨_, m1, H1, Z1, l1, R1, v1, a, xs, i, rfl, ha, hit, hend⟩
 walk_at "v,s1,m1,H1,Z1,a,xs,i|l1,R1,v1,ha,hit,hend"
 obtain ⟨b, o, rfl, hz, rfl⟩ := v1.inv
 walk_at "b|v1,hz"
 obtain ⟨_, _, obj, hg, ⟨l, ol, items, rfl, hzl, so, hr⟩, hm⟩ := R1.r.own _ _ ha
 walk_at "l,ol,items|hg,hzl,so,hr"
 have hb := R1.r.kz _ _ hz
 have hil := isList_of (R1.r.kz _ _ hzl) so
 refine callWith_of (P := fun hp => hp.get? b = some { cls := .type "method-wrapper", data := .fields #[.builtin "list_iterator.__next__", .ref a] }) rfl (fun hp q => ⟨.machine, .inr (.inl rfl), (Looks.ld (part := none) q).andThen .now⟩) ?_
 refine evalArgs_spliced rfl (wpAny_items_nil ⟨hb, wpAny_call ?_⟩)
 cases hx : xs[i]? with
 | some u =>
  walk_at "u|hx"
  obtain ⟨y, hy, hu⟩ := hr.at hx
  refine nx_item hb hg hil (x := y) (by simpa using hy) fun h' g' sb => ?_
  have R2 : RepF prog w s₀ (frs A) B Z1 env m1 (H1.put a (.iter xs (i + 1))) { s1 with heap := h' } := R1.back (R1.enter.set (t := s1.toks) ha sb g' ⟨l, ol, items, rfl, hzl, so, hr⟩) (Mem.Le.refl _)
  refine wpAny_mono (store_any (Q := fun _ m2 H2 => Q .brk m2 H2) hE hsx hu (hit u hx) R2) ?_ (fun _ _ x => x.elim)
  rintro _ s3 ⟨m3, H3, Z3, l3, R3, h3⟩
  exact wpAny_execs_cons (wpAny_Break ⟨.brk, m3, H3, Z3, l1.trans l3, R3, .brk, h3⟩)
 | none =>
  refine nx_end hh hb hg hil (by simpa [← hr.length] using hx) fun h₁ h' e sb oag nx => ?_
  walk_at "h₁,h',e|sb,oag,nx"
  obtain ⟨oa, ga⟩ := oag
  have ka := R1.r.own _ _ ha
  have nfa : ¬ frameAt env a := fun hf => by have := (R1.f.at hf).2.2.1; rw [ha] at this; (first | obtain ⟨_, rfl⟩ := this.inv | cases this)
  have nfs : a ∉ frs A := fun hf => by have := (R1.r.fr a hf).1; rw [ha] at this; (first | obtain ⟨_, rfl⟩ := this.inv | cases this)
  have Rd : RepF prog w s₀ (frs A) B Z1 env m1 (H1.del a) s1 := R1.lessH fun b o e => by unfold Hp.del at e; split at e; (first | obtain ⟨_, rfl⟩ := e.inv | cases e); exact e
  have R2 := (Rd.guard hg ka.1 ka.2.1 (by unfold Hp.del; rw [if_pos rfl]) nfa).heldIt (h' := h₁) (t := s1.toks) nfs ka.1 (fun v q => by (first | obtain ⟨_, rfl⟩ := q.inv | cases q)) (fun b o hb e => (sb.2 b hb).trans e)
  have xq := nx.there
  walk_at "xq,ob,vs,t0|xq"
  obtain ⟨ge, hcls, hd, h0, h1⟩ := xq
  have xq := (hst env (.head _)).2
  walk_at "xq,L|xq"
  have hf := xq
  clear xq
  have hstay : (hideAll h₁ (frs A)).StaysIn h' := fun b o q => nx.keeps _ _ (of_hideAll _ q)
  have hen : (hideAll h₁ (frs A)).get? e = none := by
   cases q : (hideAll h₁ (frs A)).get? e with
   | none => rfl
   | some o => have := of_hideAll _ q; rw [nx.new] at this; (first | obtain ⟨_, rfl⟩ := this.inv | cases this)
  have hl : h'.FunFrames (hideAll h₁ (frs A)) (env :: outer) := Stk.funFrames hfr hst (fun L hL => (R2.r.fr L hL).2.2.keeps nx.keeps) (fun L hL => hideAll_none _ hL)
  unfold noteFrame
  simp only [hf]
  refine wpAny_bind (wpAny_field ge hd h1 ?_)
  rw [if_neg (by decide)]
  refine wpAny_entryW hfr hl hf ge hstay hen hd (Array.getElem?_eq_some_iff.mp h1).1 h0 fun h₂ N => ?_
  obtain ⟨n1, n2, n3, n4⟩ := N
  refine wpAny_setFlight_noneW n1 n2 n3 fun h₃ k1 k2 k3 k4 => ?_
  walk_at "h₃|k1,k2,k3,k4"
  have u3 : h₁.UpToSlots h₃ := ((Heap.UpToSlots.of_keeps nx.keeps).trans n4).trans fun b o q hn => ⟨o.slots, k4 b o q hn⟩
  have R3 := R2.upto (h' := h₃) (t := s1.toks) (hide_keep k1) u3
  refine wpAny_handleBy_builtin stop_exc stop_tup stop_sub ?_
  refine Calls.Name_function_global hE.kind hkx ?_ (by decide)
  obtain ⟨oe, goe, hoe⟩ := k3.at.there
  refine Calls.loadGlobal_builtin (hE.globals ▸ G.g.keeps R3.r.kept0) hgx (hE.builtins ▸ G.b.keeps R3.r.kept0) ((G.boot _ (by decide)).trans (by rfl)) ⟨rfl, ⟨oe, goe, hoe.trans hcls⟩, ?_⟩
  rw [if_pos rfl]
  refine lands_againW ⟨k1, hen, k2, k3⟩ fun h₄ q1 q2 => ?_
  have R4 := R2.upto (h' := h₄) (t := s1.toks) (hide_keep q1.1) (u3.trans q2)
  refine wpAny_mono ((hend hx e).run B Z1 _ R4) (fun _ _ q => PS.le l1 q) (fun _ _ x => x.elim)
end
section
open PySem PySem.W PyProof.Rows PySem.Calls
noncomputable def Fly (base : Heap) (l : List Env) (e t C : Addr) (fl : Value) (h : Heap) : Prop :=
 base.StaysIn h ∧ base.get? e = none ∧ h.FunFrames base l ∧ ∃ oe vs T oT ts, h.get? e = some oe ∧ oe.cls = .ref C ∧ oe.data = .fields vs ∧ vs[0]? = some (.ref t) ∧ vs[2]? = some .none ∧ vs[1]? = some (.ref T) ∧
  base.get? T = none ∧ T ≠ e ∧ h.get? T = some oT ∧ oT.data = .fields ts ∧ ts[3]? = some fl
theorem Fly.there {base h : Heap} {l : List Env} {e t C : Addr} {fl : Value} (x : Fly base l e t C fl h) : ∃ ob, h.get? e = some ob ∧ ob.cls = .ref C := by
 walk_at "base,h,l,e,t,C,fl|x"
 obtain ⟨_, _, _, oe, _, _, _, _, he, hc, _⟩ := x
 exact ⟨oe, he, hc⟩
section
variable {M : Model} {A : Around} {E : Value → Shared → Prop} {s : Shared} {base : Heap} {env : Env} {outer l : List Env} {L e t C : Addr} {Q : Unit → Shared → Prop}
theorem entryX {oe : Obj} {vs : Array Value} {head : Value} {hadNext : Bool} (hfr : A.frames = some (env :: outer)) (hl : s.heap.FunFrames base (env :: outer)) (hf : env.frame = some L)
  (he : s.heap.get? e = some oe) (hkb : base.StaysIn s.heap) (hen : base.get? e = none) (hd : oe.data = .fields vs) (hsz : 2 < vs.size) (hc : oe.cls = .ref C) (h0 : vs[0]? = some (.ref t)) (h2 : vs[2]? = some .none)
  (h : ∀ h', Fly base (env :: outer) e t C (rawInt L) h' → s.heap.UpToSlots h' → Q () { s with heap := h' }) :
  wpAny M A (do let a ← frameOf env; let pl ← entryPlaceOf L hadNext; let b ← EntryCells.newEntry head a .none (rawInt L) .none pl; setField (.ref e) 1 b) Q E s := by
 walk_at "M,A,E,s,base,env,outer,L,e,t,C,Q,oe,vs,head,hadNext|hfr,hl,hf,he,hkb,hen,hd,hsz,hc,h0,h2,h"
 have hene : e ∉ (env :: outer).filterMap (·.frame) := fun hm => by
  obtain ⟨_, o, ho, hnf⟩ := hl.mem hm
  rw [he] at ho; injection ho with ho; subst ho; exact hnf vs hd
 refine wpAny_bind (wpAny_frameOf_fun hfr hl hf fun h₁ hs₁ => ?_)
 walk_at "h₁|hs₁"
 refine wpAny_bind (wpAny_entryPlaceOf fun pl hpl => ?_)
 walk_at "pl|hpl"
 unfold EntryCells.newEntry newFields
 refine wpAny_bind (wpAny_newObj_type ?_ (hpl.sizeOk5 _ _ _ _ _))
 have he₁ : h₁.get? e = some oe := (hs₁.2.1 e hene).trans he
 have kb₁ : base.StaysIn h₁ := fun b o hbo => (hs₁.2.1 b fun hm => by rw [(hl.mem hm).1] at hbo; (first | obtain ⟨_, rfl⟩ := hbo.inv | cases hbo)).trans (hkb b o hbo)
 generalize hts : ([head, .ref L, .none, rawInt L, .none] ++ (if pl.isEmpty then List.replicate 6 Value.none else pl)).toArray = ts
 have h3 : ts[3]? = some (rawInt L) := by rw [← hts]; simp
 have he₂ := Heap.get?_push_of_some (h := h₁) { cls := .type "traceback", dict := none, data := .fields ts } he₁
 have hTe : h₁.objs.size ≠ e := Nat.ne_of_gt (Heap.lt_size he₁)
 have keep : ∀ b o, b ≠ e → h₁.get? b = some o → ((h₁.push { cls := .type "traceback", dict := none, data := .fields ts }).update e (Obj.mapFields (·.setIfInBounds 1 (Value.ref h₁.objs.size)))).get? b = some o :=
   fun b o hbe hb => by rw [Heap.get?_update_other _ _ (Ne.symm hbe)]; exact Heap.get?_push_of_some _ hb
 have noRecord : ∀ b o, s.heap.get? b = some o → (∀ vs, o.data ≠ .fields vs) → b ≠ e := fun b o hb hnf q => by
  rw [q, he] at hb; injection hb with hb; subst hb; exact hnf vs hd
 refine wpAny_setField he₂ hd (by exact o61 hsz) (h _ ?_ ?_)
 ·have hd₃ := Obj.data_mapFields hd (·.setIfInBounds 1 (Value.ref h₁.objs.size))
  have he₃ := Heap.get?_update_self (Obj.mapFields (·.setIfInBounds 1 (Value.ref h₁.objs.size))) he₂ (Obj.isFreed_of_fields hd₃)
  have hT₃ := (Heap.get?_update_other (h₁.push { cls := .type "traceback", dict := none, data := .fields ts }) (Obj.mapFields (·.setIfInBounds 1 (Value.ref h₁.objs.size))) (Ne.symm hTe)).trans (Heap.get?_push_size h₁ rfl)
  refine ⟨fun b o hbo => keep b o (fun q => by rw [q, hen] at hbo; (first | obtain ⟨_, rfl⟩ := hbo.inv | cases hbo)) (kb₁ b o hbo), hen, hl.of_keeps fun b o hb hnf => ?_, _, _, h₁.objs.size, _, _, he₃, (Obj.cls_mapFields _ _).trans hc, hd₃, ?_, ?_, ?_, kb₁.fresh, hTe, hT₃, rfl, h3⟩
  ·obtain ⟨sl, hs⟩ := hs₁.2.2 b o hb
   exact ⟨_, keep b _ (noRecord b o hb hnf) hs, rfl⟩
  ·rw [Array.getElem?_setIfInBounds_ne (by decide)]; exact h0
  ·rw [Array.getElem?_setIfInBounds_ne (by decide)]; exact h2
  ·rw [Array.getElem?_setIfInBounds_self_of_lt (by exact o61 hsz)]
 ·intro b o hb hnf
  obtain ⟨sl, hs⟩ := hs₁.2.2 b o hb
  exact ⟨sl, keep b _ (noRecord b o hb hnf) hs⟩
theorem flightX {fl : Value} (x : Fly base l e t C fl s.heap) (h : ∀ h', Fly base l e t C .none h' → s.heap.UpToSlots h' → Q () { s with heap := h' }) : wpAny M A (setFlight (.ref e) none) Q E s := by
 walk_at "M,A,E,s,base,l,e,t,C,Q,fl|x,h"
 obtain ⟨hkb, hen, hl, oe, vs, T, oT, ts, he, hcls, hd, h0, h2, h1, hnT, hTe, hT, hdT, h3⟩ := x
 walk_at "oe,vs,T,oT,ts|he,hcls,hd,h0,h2,h1,hnT,hTe,hT,hdT,h3"
 have hsz3 : 3 < ts.size := (Array.getElem?_eq_some_iff.mp h3).1
 have other : ∀ b, b ≠ T → (s.heap.update T (Obj.mapFields (·.setIfInBounds 3 ((none : Option Addr).elim Value.none fun f => rawInt f)))).get? b = s.heap.get? b :=
  fun b hb => Heap.get?_update_other _ _ (Ne.symm hb)
 have noRecord : ∀ b o, s.heap.get? b = some o → (∀ vs, o.data ≠ .fields vs) → b ≠ T := fun b o hb hnf q => by
  rw [q, hT] at hb; injection hb with hb; subst hb; exact hnf ts hdT
 unfold setFlight
 refine wpAny_bind (wpAny_field he hd h1 ?_)
 rw [if_pos (show (Value.ref T != Value.none) = true from by simp)]
 refine wpAny_setField hT hdT hsz3 (h _ ⟨fun b o hbo => (other b fun q => by rw [q, hnT] at hbo; (first | obtain ⟨_, rfl⟩ := hbo.inv | cases hbo)).trans (hkb b o hbo), hen,
  hl.of_keeps fun b o hb hnf => ⟨o, (other b (noRecord b o hb hnf)).trans hb, rfl⟩, oe, vs, T, _, _, (other e (Ne.symm hTe)).trans he, hcls, hd, h0, h2, h1, hnT, hTe, Heap.get?_update_self _ hT (Obj.isFreed_of_fields (Obj.data_mapFields hdT _)), Obj.data_mapFields hdT _, by simp [hsz3]⟩
  fun b o hb hn => ⟨o.slots, (other b (noRecord b o hb hn)).trans hb⟩)
theorem noteX (hfr : A.frames = some (env :: outer)) (hf : env.frame = some L) (x : Fly base (env :: outer) e t C .none s.heap) (h : ∀ h', Fly base (env :: outer) e t C (rawInt L) h' → s.heap.UpToSlots h' → Q () { s with heap := h' }) :
  wpAny M A (noteFrame (.ref e) env) Q E s := by
 walk_at "M,A,E,s,base,env,outer,L,e,t,C,Q|hfr,hf,x,h"
 obtain ⟨hkb, hen, hl, oe, vs, T, oT, ts, he, hcls, hd, h0, h2, h1, hnT, hTe, hT, hdT, h3⟩ := x
 walk_at "oe,vs,T,oT,ts|he,hcls,hd,h0,h2,h1,hnT,hTe,hT,hdT,h3"
 unfold noteFrame
 simp only [hf]
 refine wpAny_bind (wpAny_field he hd h1 ?_)
 rw [if_pos (show (Value.ref T != Value.none) = true from by simp)]
 refine wpAny_bind (wpAny_field hT hdT h3 ?_)
 rw [if_neg (show ¬ ((Value.none == rawInt L) = true) from by simp [rawInt])]
 refine wpAny_bind (wpAny_setField hT hdT (Array.getElem?_eq_some_iff.mp h3).1 ?_)
 have other : ∀ b, b ≠ T → (s.heap.update T (Obj.mapFields (·.setIfInBounds 3 Value.none))).get? b = s.heap.get? b := fun b hb => Heap.get?_update_other _ _ (Ne.symm hb)
 have noRecord : ∀ b o, s.heap.get? b = some o → (∀ vs, o.data ≠ .fields vs) → b ≠ T := fun b o hb hnf q => by
  rw [q, hT] at hb; injection hb with hb; subst hb; exact hnf ts hdT
 refine entryX hfr (hl.of_keeps fun b o hb hnf => ⟨o, (other b (noRecord b o hb hnf)).trans hb, rfl⟩) hf ((other e (Ne.symm hTe)).trans he)
  (fun b o hbo => (other b fun q => by rw [q, hnT] at hbo; (first | obtain ⟨_, rfl⟩ := hbo.inv | cases hbo)).trans (hkb b o hbo)) hen hd (Array.getElem?_eq_some_iff.mp h2).1 hcls h0 h2
  fun h' f u => h h' f ((show s.heap.UpToSlots _ from fun b o hb hn => ⟨o.slots, (other b (noRecord b o hb hn)).trans hb⟩).trans u)
theorem leaveX {h : Heap} {args : List Value} (hfr : A.frames = some (env :: outer)) (hf : env.frame = some L) (hkb : base.StaysIn h) (hl : h.FunFrames base (env :: outer)) (hx : Heap.MadeExcOf h s.heap e (.ref C) args)
  (hQ : ∀ h' t, Fly base outer e t C .none h' → h'.TupAt t args → base.get? t = none → s.heap.UpToSlots h' → Q () { s with heap := h' }) : wpAny M A (leaving env (.ref e)) Q E s := by
 walk_at "M,A,E,s,base,env,outer,L,e,C,Q,h,args|hfr,hf,hkb,hl,hx,hQ"
 have xq := hx.there
 walk_at "xq,t|xq"
 obtain ⟨he, htn, ht⟩ := xq
 have fresh : ∀ b, h.get? b = none → base.get? b = none := fun b hb => by
  cases hq : base.get? b with
  | none => rfl
  | some o' => have := hkb b o' hq; rw [hb] at this; (first | obtain ⟨_, rfl⟩ := this.inv | cases this)
 unfold leaving noteFrame
 simp only [hf]
 refine wpAny_bind (wpAny_bind (wpAny_field he rfl (x := .none) rfl ?_))
 rw [if_neg (by decide)]
 refine entryX hfr (hl.of_keeps fun b o hb _ => ⟨o, hx.keeps b o hb, rfl⟩) hf he (fun b o hb => hx.keeps b o (hkb b o hb)) (fresh e hx.new) rfl (by simp) rfl rfl rfl fun h' f u => ?_
 refine flightX f fun h₃ f3 u3 => ?_
 obtain ⟨k1, k2, ⟨_, _, k3⟩, k4⟩ := f3
 exact hQ h₃ t ⟨k1, k2, k3, k4⟩ (Heap.TupAt.of_slots ⟨_, _, ht, rfl, rfl⟩ (u.trans u3)) (fresh t htn) (u.trans u3)
end
end
section
open PySem PySem.W PyProof.Rows PySem.Calls
variable {C : Addr}

/-! an exception of the text's own -/
inductive PX (prog : Program) (w : World) (s₀ : Shared) (fs : List Addr) (B Z : Mem) (env : Env) (C : Addr) (X : List V → Hp → Prop) (e : Value) (s' : Shared) : Prop
 | mk (h : Heap) (a : Addr) (m' : Loc) (H' : Hp) (Z' : Mem) (vs : List V) (args : List Value) (l : Mem.Le Z Z') (R : RepF prog w s₀ fs B Z' env m' H' { s' with heap := h }) (he : e = .ref a)
   (hx : Heap.MadeExcOf h s'.heap a (.ref C) args) (hv : Rvs prog w Z' vs args) (q : X vs H') : PX prog w s₀ fs B Z env C X e s'
structure TSx (prog : Program) (w : World) (s₀ : Shared) (A : Around) (C : Addr) (env : Env) (ss : List Stmt) (Q : Fl → Loc → Hp → Prop) (X : List V → Hp → Prop) (m : Loc) (H : Hp) : Prop where
 run : ∀ B Z s, RepF prog w s₀ (frs A) B Z env m H s → wpAny (model prog w) A (execs ss env) (PS prog w s₀ (frs A) B Z env Q) (PX prog w s₀ (frs A) B Z env C X) s
theorem PX.le {X : List V → Hp → Prop} {e : Value} (hZ : Mem.Le Z Z') (h : PX prog w s₀ fs B Z' env C X e s) : PX prog w s₀ fs B Z env C X e s :=
 let ⟨hp, a, m1, H1, Z1, vs, args, l1, R, he, hx, hv, q⟩ := h; ⟨hp, a, m1, H1, Z1, vs, args, hZ.trans l1, R, he, hx, hv, q⟩
theorem TSx.nil {Q : Fl → Loc → Hp → Prop} {X : List V → Hp → Prop} (h : Q .next m H) : TSx prog w s₀ A C env [] Q X m H := .mk fun B Z s R => wpAny_execs_nil ⟨.next, m, H, Z, Mem.Le.refl _, R, .next, h⟩
theorem TSx.cons {st rest} {Q : Fl → Loc → Hp → Prop} {X : List V → Hp → Prop} (h : T1 prog w s₀ A env st (seqQ (TSx prog w s₀ A C env rest Q X) Q) m H) : TSx prog w s₀ A C env (st :: rest) Q X m H := by
 walk_at "prog,w,s₀,H,env,m,A,C,st,rest,Q,X|h"
 refine .mk ?_
 intro B Z s R
 walk_at "B,Z,s|R"
 refine wpAny_execs_cons (wpAny_mono (h.run B Z s R) ?_ (fun _ _ x => x.elim))
 rintro f s1 ⟨g, m1, H1, Z1, l1, R1, v1, h1⟩
 cases v1 with
 | next => exact wpAny_mono (h1.run B Z1 s1 R1) (fun _ _ q => PS.le l1 q) (fun _ _ q => PX.le l1 q)
 | brk => exact ⟨_, m1, H1, Z1, l1, R1, .brk, h1⟩
 | cont => exact ⟨_, m1, H1, Z1, l1, R1, .cont, h1⟩
 | ret v x hx => exact ⟨_, m1, H1, Z1, l1, R1, .ret v x hx, h1⟩
theorem TSx.ifs {test body orelse pos} {Q : Fl → Loc → Hp → Prop} {X : List V → Hp → Prop} (h : TB prog w s₀ A env test (fun b m1 H1 => if b = true then TSx prog w s₀ A C env body Q X m1 H1 else TSx prog w s₀ A C env orelse Q X m1 H1) m H) :
  TSx prog w s₀ A C env [.If test body orelse pos] Q X m H := by
 walk_at "prog,w,s₀,H,env,m,A,C,test,body,orelse,pos,Q,X|h"
 refine .mk ?_
 intro B Z s R
 walk_at "B,Z,s|R"
 refine wpAny_execs_cons (wpAny_If (wpAny_mono (h.run B Z s R) ?_ (fun _ _ x => x.elim)))
 rintro b s1 ⟨m1, H1, Z1, l1, R1, h1⟩
 walk_at "b,s1,m1,H1,Z1|l1,R1,h1"
 have fin : ∀ {ss}, TSx prog w s₀ A C env ss Q X m1 H1 → wpAny (model prog w) A (execs ss env) (fun f s' => match f with | .next => wpAny (model prog w) A (execs [] env) (PS prog w s₀ (frs A) B Z env Q) (PX prog w s₀ (frs A) B Z env C X) s' | f => PS prog w s₀ (frs A) B Z env Q f s') (PX prog w s₀ (frs A) B Z env C X) s1 := fun h => by
  refine wpAny_mono (h.run B Z1 s1 R1) ?_ (fun _ _ q => PX.le l1 q)
  rintro f s2 ⟨g, m2, H2, Z2, l2, R2, v2, h2⟩
  cases v2 with
  | next => exact wpAny_execs_nil ⟨_, m2, H2, Z2, l1.trans l2, R2, .next, h2⟩
  | brk => exact ⟨_, m2, H2, Z2, l1.trans l2, R2, .brk, h2⟩
  | cont => exact ⟨_, m2, H2, Z2, l1.trans l2, R2, .cont, h2⟩
  | ret v x hx => exact ⟨_, m2, H2, Z2, l1.trans l2, R2, .ret v x hx, h2⟩
 cases b with
 | true => exact fin h1
 | false => exact fin h1
variable {x : Str} {bm : List Value} {newId initId Bn : String}
theorem TSx.raise (hE : EnvOk env) (hg : s₀.heap.Ns mainGlobals mg) (O : OwnCls x C bm newId mg s₀.heap) (FB : ExcBaseFacts Bn newId initId bm) (hh : A.handled = none) (hx : env.kindOf x = some .globalImplicit) {np cpos pos : Pos} {args : List Expr} {rest : List Stmt}
  {Q : Fl → Loc → Hp → Prop} {X : List V → Hp → Prop} (h : TL prog w s₀ A env cpos args (fun vs m1 H1 => vs.length ≤ sizeLine ∧ X vs H1) m H) (hp : (backTo cpos (starEach args env)).any (·.1) = false := by rfl) (hd : (x == ("__debug__" : Str)) = false := by decide) :
  TSx prog w s₀ A C env (.Raise (some (.Call (.Name x np) args [] cpos)) none pos :: rest) Q X m H := by
 walk_at "prog,w,s₀,H,env,m,A,mg,C,x,bm,newId,initId,Bn,np,cpos,pos,args,rest,Q,X|hE,hg,O,FB,hh,hx,h,hp,hd"
 refine .mk ?_
 intro B Z s R
 walk_at "B,Z,s|R"
 have xq := O.obj
 walk_at "xq,tl,N,nm,q|xq"
 walk_at "xq,bs,hdct,sn,sub|xq"
 walk_at "xq,ab,col,dd,k0|xq"
 walk_at "xq,k1,k2,k3,k5|xq"
 walk_at "xq,mN|xq"
 obtain ⟨hC, hN, hni, T⟩ := xq
 refine wpAny_execs_cons (wpAny_Raise_call_subT (C := C) (nm := nm) (q := q) (N := N) (bs := bs) (bm := tl) (hdct := hdct) (sn := sn) (sub := sub) (ab := ab) (col := col) (dd := dd) (k0 := k0) (k1 := k1) (k2 := k2) (k3 := k3) (k5 := k5)
  FB (mN := mN) (T.hasType FB.hasBase) hh hp hni ?_)
 refine Calls.Name_function_global hE.kind hx (Calls.loadGlobal_global (hE.globals ▸ hg.keeps R.r.kept0) O.bound ⟨rfl, ?_⟩) hd
 refine evalArgs_spliced hp (wpAny_mono (h.run B Z s R) ?_ (fun _ _ x => x.elim))
 rintro xs s1 ⟨vs, m1, H1, Z1, l1, R1, v1, h1, h2⟩
 refine ⟨rfl, by rw [← v1.length]; exact h1, R1.r.kept0 _ _ hC, hN.keeps R1.r.kept0, T.keeps R1.r.kept0, fun h' e hx => ?_⟩
 exact ⟨s1.heap, e, m1, H1, Z1, vs, xs, l1, R1, rfl, hx, v1, h2⟩

inductive PXC (prog : Program) (w : World) (s₀ : Shared) (A : Around) (B Z : Mem) (C : Addr) (X : List V → Hp → Prop) (e : Value) (s' : Shared) : Prop
 | mk (h : Heap) (a t : Addr) (outer : List Env) (H' : Hp) (Z' : Mem) (vs : List V) (args : List Value) (l : Mem.Le Z Z') (R : Rep prog w s₀ (frs A) B Z' H' { s' with heap := h }) (he : e = .ref a) (hfr : A.frames = some outer)
   (fl : Fly (hideAll h (frs A)) outer a t C .none s'.heap) (tu : s'.heap.TupAt t args) (tn : (hideAll h (frs A)).get? t = none) (up : h.UpToSlots s'.heap) (hv : Rvs prog w Z' vs args) (q : X vs H') : PXC prog w s₀ A B Z C X e s'
noncomputable def RetX (Q : Value → Shared → Prop) (E : Value → Shared → Prop) (r : Result) (s : Shared) : Prop := match r with
 | .ok (.ret v) => Q v s
 | .ok _ => False
 | .error e => E e s
structure TCx (prog : Program) (w : World) (s₀ : Shared) (A : Around) (C : Addr) (f : V) (vs : List V) (Q : V → Hp → Prop) (X : List V → Hp → Prop) (H : Hp) : Prop where
 run : ∀ B Z s x xs, Rep prog w s₀ (frs A) B Z H s → Rv prog w Z f x → Rvs prog w Z vs xs → codeAny (model prog w) A (.call x ⟨xs, []⟩) (RetX (PV prog w s₀ (frs A) B Z Q) (PXC prog w s₀ A B Z C X)) s
theorem Rep.hide (R : Rep prog w s₀ fs B Z H s) {L : Addr} (hB : B L = none) (hZ : Z L = none) (hH : H L = none) (hf : L ∉ fs) : Rep prog w s₀ fs B Z H { s with heap := s.heap.hide L } where
 kb a o e := let ⟨o', g, k⟩ := R.kb a o e; ⟨o', (Heap.hide_ne _ (fun q : a = L => by rw [q, hB] at e; (first | obtain ⟨_, rfl⟩ := e.inv | cases e))).trans g, k⟩
 fr a e := let ⟨x, y, o, es, n, g, d⟩ := R.fr a e; ⟨x, y, o, es, n, (Heap.hide_ne _ (fun q : a = L => hf (q ▸ e))).trans g, d⟩
 kz a o e := (Heap.hide_ne _ (fun q : a = L => by rw [q, hZ] at e; (first | obtain ⟨_, rfl⟩ := e.inv | cases e))).trans (R.kz a o e)
 dj := R.dj
 own a o e := let ⟨x, y, ob, z, u⟩ := R.own a o e; ⟨x, y, ob, (Heap.hide_ne _ (fun q : a = L => by rw [q, hH] at e; (first | obtain ⟨_, rfl⟩ := e.inv | cases e))).trans z, u⟩
 z0 := R.z0
 gens := R.gens
 os := R.os
 lim := R.lim
theorem TCx.defn {fa : Addr} {o : Obj} {fd : FuncData} {body : List Stmt} {vs : List V} {bs : List (Str × V)} {Q : V → Hp → Prop} {X : List V → Hp → Prop} (k : Stk A) (ho : s₀.heap.get? fa = some o) (hd : o.data = .func fd) (hcd : s₀.heap.CodeRec fd.code fd.qualname)
  (hbody : fd.body = .stmts body) (hroom : A.depth < recursionLimit) (hsc : plainScope fd.scope = true) (hb : TBind prog w s₀ A fd vs bs H) (hloc : (bs.all fun x => decide (fd.scope.names.lookup x.1 = some .local)) = true)
  (h : ∀ L, TSx prog w s₀ (A.deeper (callEnv fd L fa)) C (callEnv fd L fa) body (fun f _ H1 => Q (retV f) H1) X (fun x => bs.reverse.lookup x) H) : TCx prog w s₀ A C (.raw (.ref fa)) vs Q X H := by
 walk_at "prog,w,s₀,H,A,C,fa,o,fd,body,vs,bs,Q,X|k,ho,hd,hcd,hbody,hroom,hsc,hb,hloc,h"
 refine .mk ?_
 intro B Z s x xs R hf hv
 walk_at "B,Z,s,x,xs|R,hf,hv"
 obtain ⟨_, rfl⟩ := hf.inv
 have hsc' := hsc
 simp only [plainScope, Bool.and_eq_true, List.all_eq_true, beq_iff_eq, Bool.not_eq_true'] at hsc'
 obtain ⟨⟨⟨hk, hco⟩, hgen⟩, hall⟩ := hsc'
 refine codeAny_call_function hroom (R.kept0 _ _ ho) hd hco hgen hbody (hcd.keeps R.kept0) ?_
 refine wpAny_mono (hb.run B Z s xs R hv) ?_ (fun _ _ x => x.elim)
 rintro binds s1 xq
 walk_at "binds,s1|xq"
 walk_at "xq,Z1|xq"
 obtain ⟨l1, R1, hr⟩ := xq
 have hl : ∀ x ∈ binds, fd.scope.names.lookup x.1 = some .local := fun y hy => by
  have : y.1 ∈ binds.map (·.1) := List.mem_map_of_mem hy
  rw [hr.names] at this
  obtain ⟨z, hz, hzy⟩ := List.mem_map.mp this
  have := List.all_eq_true.mp hloc z hz
  rw [hzy] at this
  exact of_decide_eq_true this
 refine wpAny_newFunctionEnv (fun x hx => by have := hall x hx; simp at this; exact this.1) hl (fun h' hns hsb => ?_) hk
 walk_at "h'|hns,hsb"
 have hkp : ∀ b o, s1.heap.get? b = some o → h'.get? b = some o := fun b o e => hsb.extBut b o (Nat.ne_of_lt (Heap.lt_size e)) (Heap.get?_push_of_some _ e)
 refine ⟨R1.lim.keeps (fun b o e => hkp _ _ (R1.kept0 b o e)), codeAny_func ?_⟩
 have hfr := R1.fresh (get?_size s1.heap)
 have nfs := R1.notfs (get?_size s1.heap)
 have R2 : RepF prog w s₀ (frs (A.deeper (callEnv fd s1.heap.objs.size fa))) B Z1 (callEnv fd s1.heap.objs.size fa) (fun x => bs.reverse.lookup x) H { s1 with heap := h', toks := s1.toks + binds.length } := by
  refine ⟨(R1.keeps hkp).fsOf fun L hL => (frs_down hL).imp_right fun e => ?_, ?_⟩
  ·obtain rfl : s1.heap.objs.size = L := Option.some.inj e
   obtain ⟨o', es, ep, g, d, _⟩ := hns
   exact ⟨hfr.2.2, hfr.2.1, o', es, ep, g, d⟩
  exact {
   ns := ⟨_, hns, fun y v _ e => hr.reverse.lookup e⟩
   lb := hfr.1
   lz := hfr.2.1
   lh := hfr.2.2
   cell := fun y e => ((plain_kind hsc).1 e).elim
   apart := fun y _ _ e => ((plain_kind hsc).1 e).elim
   free := fun y _ e => ((plain_kind hsc).2 e).elim }
 have xq := k.ex
 walk_at "xq,l|xq"
 obtain ⟨hlf, hkk⟩ := xq
 have hdf : (A.deeper (callEnv fd s1.heap.objs.size fa)).frames = some (callEnv fd s1.heap.objs.size fa :: l) := Around.frames_deeper hlf
 have hst : ∀ e ∈ callEnv fd s1.heap.objs.size fa :: l, e.scope.kind ≠ .module ∧ ∃ L, e.frame = some L := fun e he => by
  rcases List.mem_cons.mp he with rfl | he
  ·exact ⟨by show fd.scope.kind ≠ _; rw [hk]; decide, _, rfl⟩
  ·exact hkk e he
 refine wpAny_mono ((h _).run B Z1 _ R2) ?_ ?_
 ·rintro f s3 ⟨g, m3, H3, Z3, l3, R3, v3, h3⟩
  cases v3 with
  | next => exact ⟨.none, H3, Z3, l1.trans l3, R3.r.fsLess fun _ => frs_up _, .none, h3⟩
  | brk => exact ⟨.none, H3, Z3, l1.trans l3, R3.r.fsLess fun _ => frs_up _, .none, h3⟩
  | cont => exact ⟨.none, H3, Z3, l1.trans l3, R3.r.fsLess fun _ => frs_up _, .none, h3⟩
  | ret v x hx => exact ⟨v, H3, Z3, l1.trans l3, R3.r.fsLess fun _ => frs_up _, hx, h3⟩
 ·rintro e s3 ⟨hp, a, m3, H3, Z3, us, args, l3, R3, rfl, hx, hv3, q⟩
  walk_at "s3,hp,a,m3,H3,Z3,us,args|l3,R3,hx,hv3,q"
  have ff : hp.FunFrames (hideAll hp (frs (A.deeper (callEnv fd s1.heap.objs.size fa)))) (callEnv fd s1.heap.objs.size fa :: l) := Stk.funFrames hdf hst (fun L hL => (R3.r.fr L hL).2.2) (fun L hL => hideAll_none _ hL)
  refine leaveX hdf rfl (hide_in hp _) ff hx fun h4 t fl tu tn up => ?_
  walk_at "h4,t|fl,tu,tn,up"
  have ef : frs (A.deeper (callEnv fd s1.heap.objs.size fa)) = s1.heap.objs.size :: frs A := by unfold frs; rw [hdf, hlf]; rfl
  rw [ef] at fl tn
  have R4 : Rep prog w s₀ (frs A) B Z3 H3 { s3 with heap := hp } := R3.r.fsLess fun _ => frs_up _
  have R5 := R4.hide R3.f.lb R3.f.lz R3.f.lh nfs
  refine ⟨hp.hide s1.heap.objs.size, a, t, l, H3, Z3, us, args, l1.trans l3, R5, rfl, hlf, fl, tu, tn, ?_, hv3, q⟩
  exact ((Heap.UpToSlots.of_keeps fun b o e => Heap.of_hide e).trans (Heap.UpToSlots.of_keeps hx.keeps)).trans up
end
section
open PySem PySem.W PyProof.Rows PySem.Calls
variable {C : Addr}

theorem RepF.unbind (R : RepF prog w s₀ fs B Z env m H s) {n : Str} {h' : Heap} {t : Nat} {mr mr' : Str → Option Value} (hl : env.kindOf n = some .local) (hm : ∀ x v, env.kindOf x = some .local → m x = some v → ∃ val, mr x = some val ∧ Rv prog w Z v val)
  (hn : h'.Ns env.locals mr') (he : ∀ y, y ≠ n → mr' y = mr y) (hs : Heap.SameBut env.locals s.heap h') : RepF prog w s₀ fs B Z env (fun y => if y = n then none else m y) H { s with heap := h', toks := t } where
 r := {
  kb := fun a o e => let ⟨o', g, q⟩ := R.r.kb a o e; ⟨o', (hs.2 a (fun hh => by rw [hh, R.f.lb] at e; (first | obtain ⟨_, rfl⟩ := e.inv | cases e))).trans g, q⟩
  fr := fun L e => by
   obtain ⟨x, y, o', es, n, g, d⟩ := R.r.fr L e
   refine ⟨x, y, ?_⟩
   by_cases hL : L = env.locals
   ·subst hL
    obtain ⟨o2, es2, ep2, g2, d2, _⟩ := hn
    exact ⟨o2, es2, ep2, g2, d2⟩
   ·exact ⟨o', es, n, (hs.2 L hL).trans g, d⟩
  kz := fun a o e => (hs.2 a (fun hh => by rw [hh, R.f.lz] at e; (first | obtain ⟨_, rfl⟩ := e.inv | cases e))).trans (R.r.kz a o e)
  dj := R.r.dj
  own := fun a o e => let ⟨x, y, obj, z, u⟩ := R.r.own a o e; ⟨x, y, obj, (hs.2 a (fun hh => by rw [hh, R.f.lh] at e; (first | obtain ⟨_, rfl⟩ := e.inv | cases e))).trans z, u⟩
  z0 := R.r.z0
  gens := R.r.gens
  os := R.r.os
  lim := R.r.lim }
 f := {
  ns := ⟨mr', hn, fun y v hy hv => by
   by_cases hyn : y = n
   ·rw [if_pos hyn] at hv; (first | obtain ⟨_, rfl⟩ := hv.inv | cases hv)
   ·rw [if_neg hyn] at hv; rw [he y hyn]; exact hm y v hy hv⟩
  lb := R.f.lb
  lz := R.f.lz
  lh := R.f.lh
  cell := fun y hy => by
   have hput : ∀ v', (fun y => if y = n then none else m y) y = some v' → m y = some v' := fun v' e => by
    dsimp only at e
    split at e
    ·(first | obtain ⟨_, rfl⟩ := e.inv | cases e)
    ·exact e
   obtain ⟨c, a1, a8⟩ := R.f.cell y hy
   refine ⟨c, a1, ?_⟩
   rcases a8 with ⟨hlt, ov, a2, a3, a4⟩ | ⟨hn', o, hb, hq, a3⟩
   ·exact .inl ⟨hlt, ov, a2.sameBut hs (Nat.ne_of_gt hlt), fun v' e => a3 v' (hput v' e), a4⟩
   ·exact .inr ⟨hn', o, hb, hq, fun v' e => a3 v' (hput v' e)⟩
  apart := R.f.apart
  free := fun y v' hy e => R.f.free y v' hy (by
   split at e
   ·(first | obtain ⟨_, rfl⟩ := e.inv | cases e)
   ·exact e) }
variable {x : Str} {bmB : List Value} {newId : String}
set_option tactic.hygienic true in
theorem T1.try_call (hE : EnvOk env) (hg : s₀.heap.Ns mainGlobals mg) (O : OwnClsQ x C bmB newId mg s₀.heap) (hbase : bmB.contains (.type "BaseException") = true) {outer : List Env} (hfr : A.frames = some (env :: outer))
  (hst : ∀ e ∈ env :: outer, e.scope.kind ≠ .module ∧ ∃ L, e.frame = some L) (hx : env.kindOf x = some .globalImplicit) {n name : Str} (hn : env.kindOf n = some .local)
  {o : Expr} {apos cpos epos np hpos pos : Pos} {b₀ : Stmt} {suite : List Stmt} {Q : Fl → Loc → Hp → Prop}
  (h : TE prog w s₀ A env o (fun ov m1 H1 => OpM prog w s₀ A name ov (fun f us H2 => KeepOk prog w s₀ f ∧ TCx prog w s₀ A C f us (fun v H3 => Q .next m1 H3)
   (fun vs H3 => ∀ e, TS prog w s₀ (A.mark (some (.ref e))) env (b₀ :: suite) (fun fl _ H4 => ∀ m5, Q fl m5 H4) (m1.put n (.exc e C vs)) H3) H2) H1) m H)
  (hb : attributeBase o name env (eval o env) = eval o env := by rfl)
  (hform : methodCallForm (([] : List Expr).length + ([] : List Keyword).length) (backTo cpos (starEach [] env)) (backToKw cpos (keywordEach [] env)) = true := by rfl) (hline : (apos.endLine == cpos.line) = true := by rfl)
  (hs : swapsWith (.Call (.Attribute o name apos) [] [] cpos) none epos.line env = pure false := by rfl) (hd : (x == ("__debug__" : Str)) = false := by decide) :
  T1 prog w s₀ A env (.Try [.Expr (.Call (.Attribute o name apos) [] [] cpos) epos] [.ExceptHandler (some (.Name x np)) (some n) (b₀ :: suite) hpos] [] [] pos) Q m H := by
 walk_at "prog,w,s₀,H,env,m,A,mg,C,x,bmB,newId,outer,n,name,o,apos,cpos,epos,np,hpos,pos,b₀,suite,Q|hE,hg,O,hbase,hfr,hst,hx,hn,h,hb,hform,hline,hs,hd"
 refine .mk ?_
 intro B Z s R
 walk_at "B,Z,s|R"
 refine wpAny_Try_except (wpAny_execs_cons (wpAny_Expr_any ?_ (by unfold interactive; rw [hE.kind]; rfl) hs))
 rw [arm_eval_Call, hb]
 refine wpAny_bind (wpAny_mono (h.run B Z s R) ?_ (fun _ _ x => x.elim))
 rintro v s1 ⟨ov, m1, H1, Z1, l1, R1, v1, h1⟩
 walk_at "v,s1,ov,m1,H1,Z1|l1,R1,v1,h1"
 refine wpAny_bind (wpAny_standAt ?_)
 unfold methodCall
 rw [hform]
 refine wpAny_bind (wpAny_holding (wpAny_mono (h1.run _ Z1 s1 v _ R1.enter v1) ?_ (fun _ _ x => x.elim)))
 rintro ⟨f, first⟩ s2 ⟨fv, us, H2, Z2, l2, R2, v2, v3, hk, h2⟩
 walk_at "f,first,s2,fv,us,H2,Z2|l2,R2,v2,v3,hk,h2"
 have hpos : methodCallPos true o env apos cpos = pure cpos := by unfold methodCallPos; simp [hline]
 refine wpAny_bind (wpAny_of_eq hpos ?_)
 have R3 := R1.back R2 l2
 refine callWith_of (P := fun h => ∀ b o, s₀.heap.get? b = some o → h.get? b = some o) rfl (fun h hh => let ⟨k, a, b⟩ := hk.run Z2 f v2; ⟨k, a, b.keeps hh⟩) ?_
 refine evalArgs_spliced rfl (wpAny_items_nil ⟨R3.r.kept0, wpAny_call ?_⟩)
 refine codeAny_mono (h2.run _ Z2 s2 f (first ++ []) R3.enter v2 (by simpa using v3)) ?_
 intro r s4 q
 walk_at "r,s4|q"
 cases r with
 | ok fl => cases fl with
  | ret y =>
   obtain ⟨y', H4, Z4, l4, R4, v4, h4⟩ := q
   exact wpAny_execs_nil (wpAny_execs_nil ⟨.next, m1, H4, Z4, (l1.trans l2).trans l4, R3.back R4 l4, .next, h4⟩)
  | _ => exact q.elim
 | error e =>
  walk_at "e|q"
  obtain ⟨hp, a, t, outer', H4, Z4, vs, args, l4, R4, rfl, hfr', fl, tu, tn, up, hv, h4⟩ := q
  walk_at "hp,a,t,outer',H4,Z4,vs,args|l4,R4,hfr',fl,tu,tn,up,hv,h4"
  rw [hfr] at hfr'; (first | obtain ⟨_, rfl⟩ := hfr'.inv | cases hfr')
  have RF := R3.back R4 l4
  have xq := (hst env (.head _)).2
  walk_at "xq,L|xq"
  have hf := xq
  clear xq
  refine noteX hfr hf fl fun h₂ held up2 => ?_
  walk_at "h₂|held,up2"
  refine flightX held fun h₃ fl3 up3 => ?_
  walk_at "h₃|fl3,up3"
  have u3 := (up.trans up2).trans up3
  have R5 := RF.upto (h' := h₃) (t := s4.toks) (hide_keep fl3.1) u3
  refine handleBy_own_as (x := x) (C := C) (newId := newId) (mg := mg) hbase ?_
  refine Calls.Name_function_global hE.kind hx (Calls.loadGlobal_global (hE.globals ▸ hg.keeps R5.r.kept0) O.bound ⟨rfl, O.keeps R5.r.kept0, fl3.there, ?_⟩) hd
  refine flightX fl3 fun h₄ fl4 up4 => ?_
  walk_at "h₄|fl4,up4"
  have u4 := u3.trans up4
  have R6 := RF.upto (h' := h₄) (t := s4.toks) (hide_keep fl4.1) u4
  have xq := id fl4
  obtain ⟨-, -, -, xq⟩ := xq
  walk_at "xq,oe,ws,T4,oT4|xq"
  walk_at "xq,ts4|xq"
  obtain ⟨hoe, hoec, hoed, hoe0, hoe2, -⟩ := xq
  have xq := ((tu.of_slots up2).of_slots up3).of_slots up4
  walk_at "xq,ot,nt|xq"
  obtain ⟨hot, hotc, hotd⟩ := xq
  have nfe : a ∉ frs A := fun q => by
   obtain ⟨_, _, o2, es, n, g2, d2⟩ := R6.r.fr a q
   rw [hoe] at g2; (first | obtain ⟨_, rfl⟩ := g2.inv | cases g2); rw [hoed] at d2; (first | obtain ⟨_, rfl⟩ := d2.inv | cases d2)
  have nft : t ∉ frs A := fun q => by
   obtain ⟨_, _, o2, es, n, g2, d2⟩ := R6.r.fr t q
   rw [hot] at g2; (first | obtain ⟨_, rfl⟩ := g2.inv | cases g2); rw [hotd] at d2; (first | obtain ⟨_, rfl⟩ := d2.inv | cases d2)
  have ga : hp.get? a = none := by
   cases q : hp.get? a with
   | none => rfl
   | some o => have := fl.2.1; rw [hideAll_get _ q nfe] at this; (first | obtain ⟨_, rfl⟩ := this.inv | cases this)
  have gt : hp.get? t = none := by
   cases q : hp.get? t with
   | none => rfl
   | some o => rw [hideAll_get _ q nft] at tn; (first | obtain ⟨_, rfl⟩ := tn.inv | cases tn)
  have fa := RF.r.fresh ga
  have ft := RF.r.fresh gt
  have nf : ∀ {b}, hp.get? b = none → ¬ frameAt env b := fun {b} hb hf => by
   obtain ⟨_, _, _, o, ho⟩ := RF.f.at hf
   have ho' : hp.get? b = some o := ho
   rw [hb] at ho'; (first | obtain ⟨_, rfl⟩ := ho'.inv | cases ho')
  have hta : t ≠ a := fun q => by rw [q, hoe] at hot; (first | obtain ⟨_, rfl⟩ := hot.inv | cases hot); rw [hoed] at hotd; (first | obtain ⟨_, rfl⟩ := hotd.inv | cases hotd)
  have R7 := R6.adoptZ hoe fa.1 fa.2.1 fa.2.2 nfe (nf ga)
  have R8 := R7.adoptZ hot ft.1 (by unfold Mem.put; rw [if_neg hta]; exact ft.2.1) ft.2.2 nft (nf gt)
  have l7 := Mem.le_put fa.2.1 oe
  have l8 : Mem.Le (Z4.put a oe) ((Z4.put a oe).put t ot) := Mem.le_put (by unfold Mem.put; rw [if_neg hta]; exact ft.2.1) ot
  have hve : Rv prog w ((Z4.put a oe).put t ot) (.exc a C vs) (.ref a) := .exc C a t oe ot ws nt vs args (l8 _ _ (Mem.put_self ..)) hoec hoed hoe0 hoe2 (Mem.put_self ..) hotc hotd (hv.mono (l7.trans l8))
  refine wpAny_mono (store_any (A := A.mark (some (.ref a))) (Q := fun _ m2 H2 => m2 = m1.put n (.exc a C vs) ∧ H2 = H4) hE (by simp [stored?, hn]) hve ⟨rfl, rfl⟩ R8) ?_ (fun _ _ x => x.elim)
  rintro _ s5 ⟨_, _, Z5, l5, R9, rfl, rfl⟩
  walk_at "s5,Z5|l5,R9"
  refine wpAny_mono ((h4 a).run B Z5 s5 R9) ?_ (fun _ _ x => x.elim)
  rintro ff s6 ⟨g, m6, H6, Z6, l6, R10, v6, h6⟩
  walk_at "ff,s6,g,m6,H6,Z6|l6,R10,v6,h6"
  have lx := (((((l1.trans l2).trans l4).trans l7).trans l8).trans l5).trans l6
  refine wpAny_bind (wpAny_bindName (wpAny_mono (store_any (A := A) (Q := fun _ m2 H2 => m2 = m6.put n .none ∧ ∀ m5, Q g m5 H2) hE (by simp [stored?, hn]) (.none) ⟨rfl, h6⟩ R10) ?_ (fun _ _ x => x.elim)))
  rintro _ s7 ⟨_, H7, Z7, l9, R11, rfl, h7⟩
  walk_at "s7,H7,Z7|l9,h7,R11"
  have xq := R11.f.ns
  walk_at "xq,mr|xq"
  obtain ⟨hnn, hmm⟩ := xq
  obtain ⟨val, hval, -⟩ := hmm n .none hn (by simp [Loc.put])
  unfold unbindBehindTheSuite
  refine wpAny_onRaise (wpAny_unbindName_local hn hnn hval (by rw [hE.kind]; rfl) fun h' u hn' hs' => ?_)
  ·have R12 := R11.unbind (t := s7.toks) hn hmm hn' (fun y hy => by simp [hy]) hs'
   have v7 : RFl prog w Z7 g ff := by (first | obtain ⟨_, rfl⟩ := v6.inv | cases v6) <;> first | exact .next | exact .brk | exact .cont | exact .ret _ _ (by rename_i hh; exact hh.mono l9)
   exact ⟨g, _, H7, Z7, lx.trans l9, R12, v7, h7 _⟩
end
section
open PySem PySem.W PyProof.Rows PySem.Calls
variable {C : Addr}

/-! e.args[1] -/
theorem Op1.args {x : Str} {Bn newId : String} {bmB : List Value} (FB : ExcAttrBase Bn bmB) (O : OwnClsQ x C bmB newId mg s₀.heap) {e : Addr} {xs : List V} {expr : Bool} {Q : V → Hp → Prop} (h : Q (.xtup xs) H) :
  Op1 prog w s₀ A (fun o => getAttr o "args" expr) (.exc e C xs) Q H := by
 walk_at "prog,w,s₀,H,A,mg,C,x,Bn,newId,bmB,e,xs,expr,Q|FB,O,h"
 refine .mk ?_
 intro B Z s y R hy
 walk_at "B,Z,s,y|R,hy"
 obtain ⟨t, oe, ot, ws, n, items, rfl, he, hc, hd, h0, h2, ht, htc, htd, hr⟩ := hy.inv
 obtain ⟨hp, g, d, tk, os⟩ := s
 exact args_of_own FB (O.keeps R.kept0) (R.kz _ _ he) hc hd h0 (.tok R (.xtup t ot n xs items ht htc htd hr) h)
theorem Op2.tail_xtup {value slice : Expr} {xs : List V} {b : V} {Q : V → Hp → Prop} (hp : plainSub slice) (h : Op2 prog w s₀ A getItem (.xtup xs) b Q H) : Op2 prog w s₀ A (subscriptTail value slice) (.xtup xs) b Q H :=
 .tail (T := "tuple") hp (fun Z s x kz _ hx => by obtain ⟨t, ot, n, items, rfl, ht, htc, _⟩ := hx.inv; exact ⟨ot, kz _ _ ht, htc⟩) F.slot_tuple_getitem.lookup h
theorem Op2.item_xtup {xs : List V} {k : Nat} {v : V} {Q : V → Hp → Prop} (hk : (k : Int) < 2 ^ 63) (hx : xs[k]? = some v) (h : Q v H) : Op2 prog w s₀ A getItem (.xtup xs) (.int (k : Int)) Q H := by
 walk_at "prog,w,s₀,H,A,xs,k,v,Q|hk,hx,h"
 refine .mk ?_
 intro B Z s x y R hv hy
 walk_at "B,Z,s,x,y|R,hv,hy"
 have xq := hy.inv
 walk_at "xq,u|xq"
 obtain rfl := xq
 have xq := hv.inv
 walk_at "xq,t,ot,n,items|xq"
 obtain ⟨rfl, ht, htc, htd, hr⟩ := xq
 obtain ⟨z, hz, hvz⟩ := hr.at hx
 have hlt : k < items.length := (List.getElem?_eq_some_iff.mp hz).1
 refine PyProof.Rows.getItem_tuple (items := items.toArray) (j := k) ⟨ot, R.kz _ _ ht, htc, n, htd⟩ (by exact o15) hk ?_ (by simpa using hz) (.same R hvz h)
 unfold seqIndex?
 simp
 omega

/-! more ways to bind -/
theorem Rps.one {x : Str} {v : V} {y : Value} (h : Rv prog w Z v y) : Rps prog w Z [(x, v)] [(x, y)] := .cons _ _ _ _ _ h .nil
theorem TBind.star {fd : FuncData} {names : List Str} {va : Str} {vs us : List V} (hn : names.length = vs.length) (h : ∀ xs ys : List Value, xs.length = names.length → bindArgs fd ⟨xs ++ ys, []⟩ = (do let t ← newTuple ys; pure (names.zip xs ++ [(va, t)])))
  (hz : us.length ≤ sizeLine) : TBind prog w s₀ A fd (vs ++ us) (names.zip vs ++ [(va, .tup us)]) H := by
 walk_at "prog,w,s₀,H,A,fd,names,va,vs,us|hn,h,hz"
 refine .mk ?_
 intro B Z s zs R hv
 walk_at "B,Z,s,zs|R,hv"
 obtain ⟨xs, ys, rfl, hx, hy⟩ : ∃ xs ys, zs = xs ++ ys ∧ Rvs prog w Z vs xs ∧ Rvs prog w Z us ys := by
  clear hn hz
  induction vs generalizing zs with
  | nil => exact ⟨[], zs, rfl, .nil, hv⟩
  | cons v vs ih =>
   cases hv with
   | cons _ x _ xs h r => obtain ⟨a, b, e, h1, h2⟩ := ih _ r; exact ⟨x :: a, b, by rw [e]; rfl, .cons _ _ _ _ h h1, h2⟩
 walk_at "xs,ys|hv,hx,hy"
 rw [h xs ys (by rw [hn, hx.length])]
 refine wpAny_bind (wpAny_newTuple ?_ (by rw [← hy.length]; exact hz))
 have R' := R.allocZ (h' := s.heap.push { cls := .type "tuple", data := .seq ys.toArray }) (t := s.toks) (get?_size _) (fun _ _ e => Heap.get?_push_of_some _ e) (Heap.get?_push_size _ rfl)
 have l := Mem.le_put (Z := Z) (R.fresh (get?_size s.heap)).2.1 { cls := .type "tuple", data := .seq ys.toArray }
 exact wpAny_pure ⟨_, l, R', (Rps.zip (hx.mono l)).append (.one (.tup _ _ _ ys (Mem.put_self ..) ⟨0, rfl⟩ (hy.mono l)))⟩
theorem TBind.dflt {fd : FuncData} {vs : List V} {names : List Str} {T : Addr} {o : Obj} {items : Array Value} {n : Nat} (hn : names.length = vs.length) (hd : fd.defaults = .ref T) (ho : s₀.heap.get? T = some o) (hs : o.data = .seq items n)
  (h : ∀ xs : List Value, xs.length = names.length → ∃ k : Option (Array Value) → Sem (List (Str × Value)), bindArgs fd ⟨xs, []⟩ = (seqItems? fd.defaults >>= k) ∧ k (some items) = pure (names.zip xs)) : TBind prog w s₀ A fd vs (names.zip vs) H :=
 .mk fun B Z s xs R hv => by
  obtain ⟨k, e1, e2⟩ := h xs (by rw [hn, hv.length])
  rw [e1, hd]
  refine wpAny_bind (wpAny_seqItems (R.kept0 _ _ ho) hs ?_)
  rw [e2]
  exact wpAny_pure ⟨Z, Mem.Le.refl _, R, .zip hv⟩

/-! the heap is seen in another way -/
structure View (prog : Program) (w : World) (s₀ : Shared) (H H' : Hp) : Prop where
 run : ∀ fs B Z s, Rep prog w s₀ fs B Z H s → ∃ Z', Mem.Le Z Z' ∧ Rep prog w s₀ fs B Z' H' s
theorem View.refl : View prog w s₀ H H := ⟨fun _ _ Z _ R => ⟨Z, Mem.Le.refl _, R⟩⟩
theorem View.trans {H'' : Hp} (a : View prog w s₀ H H') (b : View prog w s₀ H' H'') : View prog w s₀ H H'' := ⟨fun _ _ Z _ R => let ⟨_, l1, R1⟩ := a.run _ _ _ _ R; let ⟨Z2, l2, R2⟩ := b.run _ _ _ _ R1; ⟨Z2, l1.trans l2, R2⟩⟩
theorem RepF.seen (R : RepF prog w s₀ fs B Z env m H s) (v : View prog w s₀ H H') : ∃ Z', Mem.Le Z Z' ∧ RepF prog w s₀ fs B Z' env m H' s := by
 obtain ⟨Z', l, R'⟩ := v.run _ _ _ _ R.enter
 exact ⟨Z', l, R.back R' l⟩
theorem TS.seen {ss : List Stmt} {Q : Fl → Loc → Hp → Prop} (v : View prog w s₀ H H') (h : TS prog w s₀ A env ss Q m H') : TS prog w s₀ A env ss Q m H := .mk fun B Z s R => by
 obtain ⟨Z', l, R'⟩ := R.seen v
 exact wpAny_mono (h.run B Z' s R') (fun _ _ q => PS.le l q) idE
theorem View.slot_list {a l : Addr} {vs : List (Option V)} {i : Nat} {xs : List V} (ha : H a = some (.node C vs)) (hl : H l = some (.list xs)) (hi : vs[i]? = some (some (.ref l))) : View prog w s₀ H ((H.del l).put a (.node C (vs.set i (some (.lst xs))))) := ⟨fun fs B Z s R => by
 have hal : a ≠ l := fun q => by rw [q, hl] at ha; (first | obtain ⟨_, rfl⟩ := ha.inv | cases ha)
 obtain ⟨obj, ⟨items, so, hr⟩, hz, hm, R1⟩ := R.freeze hl
 have le := Mem.le_put hz obj
 have ha1 : (H.del l) a = some (.node C vs) := by unfold Hp.del; rw [if_neg hal]; exact ha
 obtain ⟨_, _, oa, ga, ⟨ys, d, od, rfl, hd, hn, hv⟩, _⟩ := R1.own _ _ ha1
 refine ⟨_, le, ?_⟩
 have := R1.set (h' := s.heap) (t := s.toks) (o := .node C (vs.set i (some (.lst xs)))) ha1 (Heap.SameBut.refl ..) ga ⟨ys, d, od, rfl, hd, by rw [List.length_set]; exact hn, fun j v hj => ?_⟩
 ·exact this
 ·by_cases hji : i = j
  ·subst hji
   obtain ⟨y, e1, e2⟩ := hv i _ hi
   obtain ⟨_, rfl⟩ := e2.inv
   rw [List.getElem?_set_self (List.getElem?_eq_some_iff.mp hi).1] at hj
   (first | obtain ⟨_, rfl⟩ := hj.inv | cases hj)
   exact ⟨_, e1, .lst l obj xs items (Mem.put_self ..) so (hr.mono le)⟩
  ·rw [List.getElem?_set_ne hji] at hj
   exact hv j v hj⟩
theorem Rfs.swap {f : List (Str × V)} {es : List DictEntry} {n : Str} {d : Addr} {u : V} (h : Rfs prog w Z f es) (hf : fget f n = some (.ref d)) (hu : Rv prog w Z u (.ref d)) : Rfs prog w Z (fput f n u) es := by
 walk_at "prog,w,Z,f,es,n,d,u|h,hf,hu"
 induction h with
 | nil => (first | obtain ⟨_, rfl⟩ := hf.inv | cases hf)
 | cons k t v x vs xs h r ih =>
  walk_at "k,t,v,x,vs,xs|h,r,ih,hf"
  unfold fput
  unfold fget at hf
  by_cases hk : k = n
  ·rw [if_pos hk] at hf ⊢; (first | obtain ⟨_, rfl⟩ := hf.inv | cases hf)
   obtain ⟨_, rfl⟩ := h.inv
   exact .cons k t u _ vs xs hu r
  ·rw [if_neg hk] at hf ⊢
   exact .cons k t v x _ _ h (ih hf)
theorem View.ns_dict {a d : Addr} {f : List (Str × V)} {n : Str} {kvs : List (Int × V)} (ha : H a = some (.ns f)) (hd : H d = some (.dict kvs)) (hf : fget f n = some (.ref d)) : View prog w s₀ H ((H.del d).put a (.ns (fput f n (.dct kvs)))) := ⟨fun fs B Z s R => by
 have hal : a ≠ d := fun q => by rw [q, hd] at ha; (first | obtain ⟨_, rfl⟩ := ha.inv | cases ha)
 obtain ⟨obj, ⟨kvr, so, hr⟩, hz, hm, R1⟩ := R.freeze hd
 have le := Mem.le_put hz obj
 have ha1 : (H.del d) a = some (.ns f) := by unfold Hp.del; rw [if_neg hal]; exact ha
 obtain ⟨_, _, oa, ga, ⟨es, n', rfl, hv⟩, _⟩ := R1.own _ _ ha1
 refine ⟨_, le, ?_⟩
 exact R1.set (h' := s.heap) (t := s.toks) (o := .ns (fput f n (.dct kvs))) ha1 (Heap.SameBut.refl ..) ga ⟨es, n', rfl, hv.swap hf (.dct d obj kvs kvr hm (Mem.put_self ..) so (hr.mono le))⟩⟩
end
section
open PySem PySem.W PyProof.Rows PySem.Calls
variable {C : Addr}

/-! a for over a range while an exception is handled -/
theorem entry_unchain : entryFor table "proto.unchain" = some Builtin.«proto.unchain» := entryFor_of_tree (by kernel_rfl)
theorem raiseX {α : Type} {a e : Addr} {oe oa : Obj} {ws vs : Array Value} {Q : α → Shared → Prop} {E : Value → Shared → Prop} (hh : A.handled = some (.ref e)) (hne : e ≠ a) (ge : s.heap.get? e = some oe) (hd : oe.data = .fields ws) (h2 : ws[2]? = some .none)
  (ga : s.heap.get? a = some oa) (hda : oa.data = .fields vs) (hsz : 2 < vs.size) (h : ∀ h', Heap.SameBut a s.heap h' → (∃ o', h'.get? a = some o' ∧ o'.cls = oa.cls) → E (.ref a) { s with heap := h' }) :
  wpAny (model prog w) A (raiseNew (α := α) (.ref a)) Q E s := by
 unfold raiseNew
 refine wpAny_bind (wpAny_handled ?_)
 rw [hh]
 dsimp only
 rw [if_pos (by simp [hne])]
 refine wpAny_bind (wpAny_holding (wpAny_runValue (codeAny_builtin entry_unchain ?_)))
 unfold Builtin.«proto.unchain»
 dsimp only
 refine wpAny_bind (wpAny_field ge hd h2 ?_)
 rw [if_pos (by simp)]
 refine wpAny_bind (m := ret .none) (wpAny_pure (wpAny_pure ?_))
 dsimp only
 refine wpAny_bind ?_
 unfold updateField
 refine wpAny_bind (wpAny_load ga ?_)
 rw [hda]
 dsimp only
 rw [if_pos hsz]
 have g' := Heap.get?_update_self (Obj.mapFields (·.setIfInBounds 2 (Value.ref e))) ga (Obj.isFreed_of_fields (Obj.data_mapFields hda _))
 exact wpAny_update ga (wpAny_throw (h _ (Heap.SameBut.update ..) ⟨_, g', Obj.cls_mapFields _ _⟩))
theorem range_endX {it e : Addr} {x left step : Int} {oe : Obj} {ws : Array Value} {Q : Option Value → Shared → Prop} {E : Value → Shared → Prop} (hh : A.handled = some (.ref e)) (ge : s.heap.get? e = some oe) (hd : oe.data = .fields ws) (h2 : ws[2]? = some .none)
  (hit : IsRangeIter s.heap it x left step) (hleft : left ≤ 0) (hQ : ∀ h', Heap.ExtBut it s.heap h' → Q none { s with heap := h' }) : wpAny (model prog w) A (pyNext (.ref it)) Q E s := by
 walk_at "prog,w,s,A,it,e,x,left,step,oe,ws,Q,E|hh,ge,hd,h2,hit,hleft,hQ"
 have hT : s.TypeIs (.ref it) "range_iterator" := ⟨_, hit, rfl⟩
 unfold pyNext
 refine wpAny_bind (wpAny_attempt (wpAny_callSpecial?_slot (name := Str.ofString "__next__") hT F.slot_range_iterator_next
  (wpAny_call_entry F.slot_range_iterator_next hT F.entry_range_iterator_next ?_ (F.args_range_iterator_next_1 _))))
 show wpAny _ _ (field (.ref it) 0 >>= _) _ _ s
 refine wpAny_bind (wpAny_field hit rfl (x := rawInt x) rfl ?_)
 show wpAny _ _ (field (.ref it) 1 >>= _) _ _ s
 refine wpAny_bind (wpAny_field hit rfl (x := rawInt left) rfl ?_)
 show wpAny _ _ (field (.ref it) 2 >>= _) _ _ s
 refine wpAny_bind (wpAny_field hit rfl (x := rawInt step) rfl ?_)
 show wpAny _ _ (if left ≤ 0 then _ else _) _ _ s
 rw [if_pos hleft]
 refine wpAny_bind (wpAny_rule ?_)
 refine wpAny_bind ?_
 show wpAny _ _ (newExc (.type "StopIteration") [] >>= _) _ _ _
 refine wpAny_bind ?_
 simp only [newExc, newTuple]
 refine wpAny_bind (wpAny_newObj_type ?_ (by size_fits))
 refine wpAny_bind (m := firstArgMember _ _) (wpAny_of_eq (a := Value.none) (by first | rfl | (simp only [firstArgMember]; rfl)) ?_)
 refine wpAny_newObj_type ?_ (by size_fits)
 have ge1 := Heap.get?_push_of_some { cls := .type "tuple", data := .seq ([] : List Value).toArray } ge
 refine raiseX (A := A.in1) hh (Nat.ne_of_lt (Heap.lt_size ge1)) (Heap.get?_push_of_some _ ge1) hd h2 (Heap.get?_push_size _ rfl) rfl (by show 2 < _; simp only [Array.size_append, List.size_toArray, List.length_cons, List.length_nil]; exact o232) fun h' sb ⟨o', g', c'⟩ => ?_
 refine wpAny_bind (wpAny_isInstance (T := "StopIteration") (b := true) ⟨o', g', c'⟩ isSubtype_stop ?_)
 refine wpAny_pure (hQ _ fun b o hb q => ?_)
 have q1 := Heap.get?_push_of_some { cls := .type "tuple", data := .seq ([] : List Value).toArray } q
 exact (sb.2 b (Nat.ne_of_lt (Heap.lt_size q1))).trans (Heap.get?_push_of_some _ q1)
theorem Walks.rangeX {e : Addr} {oe : Obj} {ws : Array Value} (hh : A.handled = some (.ref e)) (hd : oe.data = .fields ws) (h2 : ws[2]? = some .none) (I : Addr) (a c : Int) (n : Nat) (hne : e ≠ I) :
  Walks prog w A I [I, e] [I] n (fun i v => ∃ t, v = .int (a + i * c) t) (fun i h => IsRangeIter h I (a + (i : Nat) * c) ((n : Int) - (i : Nat)) c ∧ h.get? e = some oe) where
 sub := fun _ hb => by simp at hb; simp [hb]
 frame := fun _ _ _ st hk => ⟨hk I (by simp) _ st.1, hk e (by simp) _ st.2⟩
 item := fun i s Q E hi st hQ => by
  refine wpAny_pyNext_range_item st.1 (by exact o233 hi) fun h' hit' hs' => ?_
  refine hQ _ h' _ ⟨_, rfl⟩ ⟨?_, hs'.extBut e oe hne st.2⟩ fun b o hb e => hs'.extBut b o (fun h => hb (by simp [h])) e
  have e1 : a + ((i + 1 : Nat) : Int) * c = a + (i : Int) * c + c := by push_cast; rw [Int.add_mul, Int.one_mul, Int.add_assoc]
  have e2 : (n : Int) - ((i + 1 : Nat) : Int) = (n : Int) - (i : Int) - 1 := by push_cast; exact o234
  rw [e1, e2]; exact hit'
 done := fun s Q E st hQ => range_endX hh st.2 hd h2 st.1 (by exact o235) fun h' he' => hQ h' s.toks fun b o hb e => he' b o (fun h => hb (by simp [h])) e
 self := fun _ _ _ _ st hQ => wpAny_pyIter_rangeiter st.1 hQ
theorem OpItF.rngX {x n : Str} {px : Pos} {e : Addr} {vs : List V} {a b : Int} (hh : A.handled = some (.ref e)) (hn : env.kindOf n = some .local) (hm : m n = some (.exc e C vs)) (hs : Builtin.Range.small a b 1 = true) :
  OpItF prog w s₀ A env (.Name x px) (.rng a b 1) ((List.range (b - a).toNat).map fun (i : Nat) => V.int (a + i)) m H := by
 walk_at "prog,w,s₀,H,env,m,A,C,x,n,px,e,vs,a,b|hh,hn,hm,hs"
 refine .mk ?_
 intro B Z s y R hv Q hQ
 walk_at "B,Z,s,y,Q|R,hv,hQ"
 have xq := hv.inv
 walk_at "xq,r,t,u,v|xq"
 obtain ⟨rfl, hz⟩ := xq
 have xq := R.f.ns
 walk_at "xq,mr|xq"
 obtain ⟨-, hmm⟩ := xq
 have xq := hmm n _ hn hm
 walk_at "xq,val|xq"
 obtain ⟨-, hval⟩ := xq
 have xq := hval.inv
 walk_at "xq,t',oe,ot,ws|xq"
 walk_at "xq,n',items|xq"
 obtain ⟨rfl, he, hc, hd, h0, h2, -⟩ := xq
 have ge := R.r.kz _ _ he
 refine wpAny_pyIter_range (R.r.kz _ _ hz) hs (hQ _ _ s.toks _ (get?_size _) (fun _ _ e => Heap.get?_push_of_some _ e) (Heap.get?_push_size _ rfl) ?_)
 refine ⟨_, _, _, by have W := Walks.rangeX (prog := prog) (w := w) hh hd h2 s.heap.objs.size a 1 (b - a).toNat (Nat.ne_of_lt (Heap.lt_size ge)); rw [List.length_map, List.length_range]; exact W, ?_, ?_, ?_, ?_, ?_⟩
 ·intro b hb; simp at hb; rcases hb with rfl | rfl
  ·exact .inl rfl
  ·exact .inr ⟨oe, he⟩
 ·rintro i v x e xq
  walk_at "i,v,x|e,xq"
  walk_at "xq,t|xq"
  obtain rfl := xq
  rw [List.getElem?_map] at e
  cases q : (List.range (b - a).toNat)[i]? with
  | none => rw [q] at e; (first | obtain ⟨_, rfl⟩ := e.inv | cases e)
  | some j =>
   rw [q] at e; (first | obtain ⟨_, rfl⟩ := e.inv | cases e)
   obtain ⟨_, q⟩ := List.getElem?_eq_some_iff.mp q
   simp at q; subst q
   simp only [Int.mul_one]; exact .int _ _
 ·refine ⟨?_, Heap.get?_push_of_some _ ge⟩
  show IsRangeIter _ _ (a + (0 : Nat) * 1) (((b - a).toNat : Int) - (0 : Nat)) 1
  have : Builtin.Range.rangeSize a b 1 = ((b - a).toNat : Int) := by rw [rangeSize_one]; split <;> omega
  rw [this]
  simp
  exact Heap.get?_push_size _ rfl
 ·intro i h st; exact ⟨_, st.1, ⟨fun v e => (by (first | obtain ⟨_, rfl⟩ := e.inv | cases e)), fun es n e => (by (first | obtain ⟨_, rfl⟩ := e.inv | cases e))⟩⟩
 ·intro i x s Q _ _ q; exact wpAny_pure q
end
section
open PySem PySem.W PyProof.Rows PySem.Calls
variable {C : Addr}

theorem lookup_apart : ∀ {cs : List (Str × Addr)} {x y : Str} {c : Addr}, cs.Pairwise (fun x y => x.2 ≠ y.2) → cs.lookup x = some c → cs.lookup y = some c → x = y
 | [], _, _, _, _, h, _ => by (first | obtain ⟨_, rfl⟩ := h.inv | cases h)
 | (n, a) :: r, x, y, c, hp, hx, hy => by
  rw [List.lookup_cons] at hx hy
  have hp' := List.pairwise_cons.mp hp
  by_cases h1 : x = n
  ·by_cases h2 : y = n
   ·rw [h1, h2]
   ·rw [beq_iff_eq.mpr h1] at hx
    rw [beq_eq_false_iff_ne.mpr h2] at hy
    (first | obtain ⟨_, rfl⟩ := hx.inv | cases hx)
    exact absurd rfl (hp'.1 (y, _) (mem_of_lookup hy))
  ·rw [beq_eq_false_iff_ne.mpr h1] at hx
   by_cases h2 : y = n
   ·rw [beq_iff_eq.mpr h2] at hy
    (first | obtain ⟨_, rfl⟩ := hy.inv | cases hy)
    exact absurd rfl (hp'.1 (x, _) (mem_of_lookup hx))
   ·rw [beq_eq_false_iff_ne.mpr h2] at hy
    exact lookup_apart hp'.2 hx hy
theorem law_enter {fa : Addr} {o : Obj} {fd : FuncData} {body : List Stmt} {v : Value} {x : Str} {Q : V → Prop} (ho : s.heap.get? fa = some o) (hd : o.data = .func fd) (hcd : s.heap.CodeRec fd.code fd.qualname) (hbody : fd.body = .stmts body) (hroom : A.depth < recursionLimit)
  (hbind : bindArgs fd ⟨[v], []⟩ = pure [(x, v)]) (hclo : fd.closure = []) (hx : fd.scope.names.lookup x = some .local) (hfree : ∀ n, fd.scope.names.lookup n ≠ some .free) (hco : fd.scope.isCoroutine = false) (hgen : fd.scope.isGenerator = false) (hk : fd.scope.kind = .function)
  (hlim : s.heap.NoLimit) (hg : s.gens = #[]) (hfr : A.frames = some [])
  (h : ∀ L, TS prog w s (A.deeper (callEnvC fd L fa)) (callEnvC fd L fa) body (fun f _ _ => Q (retV f)) (Loc.put (fun _ => none) x (.raw v)) (fun _ => none)) :
  codeAny (model prog w) A (.call (.ref fa) ⟨[v], []⟩) (fun r s' => ∃ u y Z, r = .ok (.ret y) ∧ Rv prog w Z u y ∧ Q u ∧ (∀ b o, s.heap.get? b = some o → s'.heap.get? b = some o) ∧ s'.os = s.os ∧ s'.gens = #[]) s := by
 walk_at "prog,w,s,A,fa,o,fd,body,v,x,Q|ho,hd,hcd,hbody,hroom,hbind,hclo,hx,hfree,hco,hgen,hk,hlim,hg,hfr,h"
 refine codeAny_call_cells hroom ho hd hlim hcd hbody hbind hclo (fun y hy => ?_) (fun s₁ I => ?_) hco hgen hk
 ·simp at hy; subst hy; exact .inl hx
 walk_at "s₁|I"
 generalize hL : s.heap.objs.size = L at *
 have hLn : s.heap.get? L = none := by rw [← hL]; exact get?_size _
 have high : ∀ c, L ≤ c → s.heap.get? c = none := fun c hc => Heap.get?_none_of_le (by rw [hL]; exact hc)
 have xq := I.toInCall.same
 walk_at "xq,h1,tk|xq"
 obtain rfl := xq
 have hkx : (callEnvC fd L fa).kindOf x = some .local := hx
 have R : RepF prog w s (frs (A.deeper (callEnvC fd L fa))) (fun _ => none) (fun a => s.heap.get? a) (callEnvC fd L fa) (Loc.put (fun _ => none) x (.raw v)) (fun _ => none) { s with heap := h1, toks := tk } := by
  refine ⟨?_, ?_⟩
  ·exact {
    kb := fun a o e => by (first | obtain ⟨_, rfl⟩ := e.inv | cases e)
    fr := fun a e => by
     have ha : a = L := by
      rcases frs_down e with e | e
      ·unfold frs at e; rw [hfr] at e; (first | obtain ⟨_, rfl⟩ := e.inv | cases e)
      ·exact (Option.some.inj e).symm
     subst ha
     obtain ⟨o', es, ep, g, d, _⟩ := I.toInCall.ns
     exact ⟨rfl, hLn, o', es, ep, g, d⟩
    kz := fun a o e => I.toInCall.keep a o e
    dj := fun a o e => by (first | obtain ⟨_, rfl⟩ := e.inv | cases e)
    own := fun a o e => by (first | obtain ⟨_, rfl⟩ := e.inv | cases e)
    lim := hlim
    z0 := fun _ _ e => e
    gens := hg
    os := rfl }
  ·exact {
    ns := ⟨_, I.toInCall.ns, fun y u hy hu => by
     walk_at "y,u|hy,hu"
     unfold Loc.put at hu
     by_cases hyx : y = x
     ·rw [if_pos hyx] at hu; (first | obtain ⟨_, rfl⟩ := hu.inv | cases hu)
      refine ⟨v, ?_, .raw v⟩
      simp only [bindL, hkx, if_true, hyx]
     ·rw [if_neg hyx] at hu; (first | obtain ⟨_, rfl⟩ := hu.inv | cases hu)⟩
    lb := rfl
    lz := hLn
    lh := rfl
    cell := fun y hy => by
     walk_at "y|hy"
     have hmem : (y, NameKind.cell) ∈ fd.scope.names := mem_of_lookup hy
     have hs := (cellsFrom_mem fd.scope.names (L + 1) y).mpr hmem
     have xq := Option.isSome_iff_exists.mp hs
     walk_at "xq,c|xq"
     have hc := xq
     clear xq
     have hlt : L < c := I.above y c (mem_of_lookup hc)
     refine ⟨c, hc, .inl ⟨hlt, _, I.cell y c hc, fun u hu => ?_, rfl, high c (Nat.le_of_lt hlt), rfl⟩⟩
     unfold Loc.put at hu
     by_cases hyx : y = x
     ·subst hyx; rw [hkx] at hy; (first | obtain ⟨_, rfl⟩ := hy.inv | cases hy)
     ·rw [if_neg hyx] at hu; (first | obtain ⟨_, rfl⟩ := hu.inv | cases hu)
    apart := fun y z c _ _ _ h2 h3 => lookup_apart I.apart h2 h3
    free := fun y u hy => (hfree y hy).elim }
 refine wpAny_mono ((h L).run _ _ _ R) ?_ (fun _ _ x => x.elim)
 rintro f s3 ⟨g, m3, H3, Z3, l3, R3, v3, h3⟩
 walk_at "f,s3,g,m3,H3,Z3|l3,R3,v3,h3"
 have fin : ∀ {u y}, Rv prog w Z3 u y → Q u → ∃ u' y' Z, Except.ok (Flow.ret y) = Except.ok (ε := Value) (Flow.ret y') ∧ Rv prog w Z u' y' ∧ Q u' ∧ (∀ b o, s.heap.get? b = some o → s3.heap.get? b = some o) ∧ s3.os = s.os ∧ s3.gens = #[] := fun {u y} a b => ⟨u, y, Z3, rfl, a, b, R3.r.kept0, R3.r.os, R3.r.gens⟩
 cases v3 with
 | next => exact fin .none h3
 | brk => exact fin .none h3
 | cont => exact fin .none h3
 | ret v x hx => exact fin hx h3
theorem Op2.slice_raw {l : Addr} {ws : List Value} {ns : List Int} {lo hi st : Option Int} {Q : V → Hp → Prop} (h0 : st ≠ some 0) (hl : s₀.heap.IsList l ws.toArray) (hi' : IntsAre ws ns) (hz : ns.length ≤ 63) (h : ∀ l' : List Int, l'.length ≤ ns.length → Q (.lst (intsV l')) H) :
  Op2 prog w s₀ A getItem (.raw (.ref l)) (.slc lo hi st) Q H := by
 walk_at "prog,w,s₀,H,A,l,ws,ns,lo,hi,st,Q|h0,hl,hi',hz,h"
 refine .mk ?_
 intro B Z s x y R hx hy
 walk_at "B,Z,s,x,y|R,hx,hy"
 obtain ⟨_, rfl⟩ := hx.inv
 have xq := hy.inv
 walk_at "xq,sl,o',vl,vu|xq"
 walk_at "xq,vs|xq"
 obtain ⟨rfl, hz', hc, hd, pl, pu, ps⟩ := xq
 have hr0 : Rvs prog w Z (intsV ns) ws := rvs_of_ints hi'
 have hlen : ns.length = ws.length := by simpa [intsV] using hr0.length
 have hsz : ws.toArray.size ≤ sizeLine := by simp [sizeLine_eq]; exact o236 hz hlen
 walk_at "hl,ol|hl"
 obtain ⟨gl, cl, hl⟩ := hl
 walk_at "hl,nl|hl"
 have dl := hl
 clear hl
 refine wpAny_getItem_list_slice ⟨ol, R.kept0 _ _ gl, cl, nl, dl⟩ ⟨o', R.kz _ _ hz', hc, hd⟩ pl pu ps h0 ?_ hsz
 have hle := slicePick_size_le ws.toArray lo hi st
 have hr := ints_filterMap hr0 (sliceRange (sliceBounds lo hi st ws.toArray.size).1 (sliceBounds lo hi st ws.toArray.size).2.1 (sliceBounds lo hi st ws.toArray.size).2.2)
 have e : (slicePick ws.toArray lo hi st).toList = (sliceRange (sliceBounds lo hi st ws.toArray.size).1 (sliceBounds lo hi st ws.toArray.size).2.1 (sliceBounds lo hi st ws.toArray.size).2.2).filterMap (ws[·]?) := by
  unfold slicePick; simp
 rw [← e] at hr
 exact .newZ R (t := s.toks) (get?_size _) (fun _ _ e => Heap.get?_push_of_some _ e) (Heap.get?_push_size _ rfl) (.lst _ _ _ (slicePick ws.toArray lo hi st).toList (Mem.put_self ..) ⟨0, by simp⟩ (hr.mono (Mem.le_put (R.fresh (get?_size _)).2.1 _))) (h _ (by
  have q := hr.length
  simp only [intsV, List.length_map, Array.length_toList] at q
  rw [q]
  simpa [hlen] using hle))
theorem Op2.tail_raw {value slice : Expr} {l : Addr} {ws : List Value} {b : V} {Q : V → Hp → Prop} (hl : s₀.heap.IsList l ws.toArray) (hp : plainSub slice) (h : Op2 prog w s₀ A getItem (.raw (.ref l)) b Q H) :
  Op2 prog w s₀ A (subscriptTail value slice) (.raw (.ref l)) b Q H := .mk fun B Z s x y R hx hy => by
 obtain ⟨_, rfl⟩ := hx.inv
 obtain ⟨ol, gl, cl, nl, dl⟩ := hl
 obtain ⟨ops, e⟩ := hp (.ref l) y
 exact tail_any ⟨ol, R.kept0 _ _ gl, cl⟩ list_getitem_lookup (h.run B Z s _ y R (.raw _) hy) e
end
theorem ofString_eq (a b : String) : (Str.ofString a = Str.ofString b) ↔ a = b := by
 constructor
 ·intro h
  rw [Str.ofString_eq_toList, Str.ofString_eq_toList] at h
  have h := congrArg (fun x : Str => x.cps.toList) h
  simp only at h
  have : a.toList = b.toList := by
   have inj : ∀ (l l' : List Char), l.map Char.toNat = l'.map Char.toNat → l = l' := by
    intro l
    induction l with
    | nil => intro l' e; cases l' with | nil => rfl | cons _ _ => simp at e
    | cons c l ih =>
     intro l' e
     cases l' with
     | nil => simp at e
     | cons d l' =>
      simp only [List.map_cons, List.cons.injEq] at e
      rw [ih _ e.2]
      congr 1
      exact Char.ext (UInt32.toNat_inj.mp e.1)
   exact inj _ _ h
  exact String.toList_inj.mp this
 ·rintro rfl; rfl
instance : Nonempty DefParts := ⟨⟨⟨[], [], none, [], [], none, []⟩, [], default⟩⟩
noncomputable def mkFd (p : DefParts) (n q : Str) (dv kv dc pm : Value) (an : Option Addr) (cd ct : Value) : FuncData :=
 { name := n, qualname := q, params := p.params, body := .stmts p.body, scope := p.scope, globals := mainGlobals, closure := [], defaults := dv, kwdefaults := kv, doc := dc, pyModule := pm, annotations := an, code := cd, closureTuple := ct, builtins := builtinsNs }
structure At (s₀ : Shared) (fa : Addr) (p : DefParts) (dv : Value) : Prop where
 ex : ∃ o n q kv dc pm an cd ct, s₀.heap.get? fa = some o ∧ o.data = .func (mkFd p n q dv kv dc pm an cd ct) ∧ s₀.heap.CodeRec cd q
noncomputable def Loc.nil : Loc := fun _ => none
noncomputable def Loc.ofArgs (bs : List (Str × V)) : Loc := bs.foldl (fun m b => m.put b.1 b.2) Loc.nil
theorem ofArgs_lookup (bs : List (Str × V)) : (fun x => bs.reverse.lookup x) = Loc.ofArgs bs := by
 have key : ∀ (bs : List (Str × V)) (m : Loc) (x : Str), (bs.foldl (fun m b => m.put b.1 b.2) m) x = (bs.reverse.lookup x).or (m x) := by
  intro bs
  induction bs with
  | nil => intro m x; rfl
  | cons b bs ih =>
   intro m x
   rw [List.foldl_cons, ih, List.reverse_cons, List.lookup_append]
   cases bs.reverse.lookup x with
   | some v => rfl
   | none =>
    obtain ⟨k, v⟩ := b
    simp only [Option.none_or, Loc.put, List.lookup]
    by_cases h : x = k
    ·subst h; simp
    ·rw [beq_eq_false_iff_ne.mpr h, if_neg h]; rfl
 funext x
 rw [Loc.ofArgs, key]
 cases bs.reverse.lookup x <;> rfl
noncomputable def Has (m : Loc) (l : List (Str × V)) : Prop := ∀ p ∈ l, m p.1 = some p.2
theorem Has.nil : Has m [] := fun _ h => nomatch h
theorem Has.cons {x : Str} {v : V} {l : List (Str × V)} (h : m x = some v) (r : Has m l) : Has m ((x, v) :: l) := fun p hp => by
 rcases List.mem_cons.mp hp with rfl | hp
 ·exact h
 ·exact r p hp
theorem Has.less {l : List (Str × V)} (h : Has m l) : ∀ x v, Loc.ofArgs l x = some v → m x = some v := fun x v e => by
 rw [← ofArgs_lookup] at e
 exact h (x, v) (List.mem_reverse.mp (mem_of_lookup e))
theorem TS.has {ss : List Stmt} {Q : Fl → Loc → Hp → Prop} {l : List (Str × V)} (h : Has m l) (t : TS prog w s₀ A env ss Q (Loc.ofArgs l) H) : TS prog w s₀ A env ss Q m H := .mk fun B Z s R => t.run B Z s (R.less h.less)
theorem TB.has {e : Expr} {Q : Bool → Loc → Hp → Prop} {l : List (Str × V)} (h : Has m l) (t : TB prog w s₀ A env e Q (Loc.ofArgs l) H) : TB prog w s₀ A env e Q m H := .mk fun B Z s R => t.run B Z s (R.less h.less)
theorem TE.has {e : Expr} {Q : V → Loc → Hp → Prop} {l : List (Str × V)} (h : Has m l) (t : TE prog w s₀ A env e Q (Loc.ofArgs l) H) : TE prog w s₀ A env e Q m H := .mk fun B Z s R => t.run B Z s (R.less h.less)
theorem TA.has {e : Expr} {v : V} {Q : Loc → Hp → Prop} {l : List (Str × V)} (h : Has m l) (t : TA prog w s₀ A env e v Q (Loc.ofArgs l) H) : TA prog w s₀ A env e v Q m H := .mk fun B Z s x R hv => t.run B Z s x (R.less h.less) hv
theorem TCd.at {fa : Addr} {p : DefParts} {names : List Str} {vs : List V} {Q : V → Hp → Prop} (h : At s₀ fa p .none) (hroom : A.depth < recursionLimit) (hsc : plainScope p.scope = true)
  (hn : names.length = vs.length) (hb : ∀ (n q : Str) kv dc pm an cd ct (xs : List Value), xs.length = names.length → bindArgs (mkFd p n q .none kv dc pm an cd ct) ⟨xs, []⟩ = pure (names.zip xs))
  (hloc : ((names.zip vs).all fun x => decide (p.scope.names.lookup x.1 = some .local)) = true)
  (ht : ∀ (n q : Str) kv dc pm an cd ct L, TS prog w s₀ (A.deeper (callEnv (mkFd p n q .none kv dc pm an cd ct) L fa)) (callEnv (mkFd p n q .none kv dc pm an cd ct) L fa) p.body (fun f _ H1 => Q (retV f) H1) (Loc.ofArgs (names.zip vs)) H) :
  TCd prog w s₀ A (.raw (.ref fa)) vs Q H := by
 obtain ⟨o, n, q, kv, dc, pm, an, cd, ct, h1, h2, h3⟩ := h.ex
 refine TCd.defn h1 h2 h3 rfl hroom hsc (.plain hn (hb n q kv dc pm an cd ct)) hloc fun L => ?_
 rw [ofArgs_lookup]
 exact ht n q kv dc pm an cd ct L
theorem TC.at {fa : Addr} {p : DefParts} {names : List Str} {vs : List V} {Q : V → Hp → Prop} (h : At s₀ fa p .none) (hroom : A.depth < recursionLimit) (hsc : plainScope p.scope = true)
  (hn : names.length = vs.length) (hb : ∀ (n q : Str) kv dc pm an cd ct (xs : List Value), xs.length = names.length → bindArgs (mkFd p n q .none kv dc pm an cd ct) ⟨xs, []⟩ = pure (names.zip xs))
  (hloc : ((names.zip vs).all fun x => decide (p.scope.names.lookup x.1 = some .local)) = true)
  (ht : ∀ (n q : Str) kv dc pm an cd ct L, TS prog w s₀ (A.deeper (callEnv (mkFd p n q .none kv dc pm an cd ct) L fa)) (callEnv (mkFd p n q .none kv dc pm an cd ct) L fa) p.body (fun f _ H1 => Q (retV f) H1) (Loc.ofArgs (names.zip vs)) H) :
  TC prog w s₀ A (.raw (.ref fa)) vs Q H := (TCd.at h hroom hsc hn hb hloc ht).tc
section
variable {prog : Program} {w : World} {s₀ : Shared} {H : Hp} {env : Env} {m : Loc} {A : Around}
noncomputable def AbsQ (Q Q' : Fl → Loc → Hp → Prop) : Prop := ∀ f m H, Q f m H → Q' f m H
theorem TS.absT {ss : List Stmt} {P : Loc → Hp → Prop} {Q : Fl → Loc → Hp → Prop} (h : ∀ Q', AbsQ (turnQ P Q) Q' → TS prog w s₀ A env ss Q' m H) : TS prog w s₀ A env ss (turnQ P Q) m H := h _ (fun _ _ _ x => x)
theorem TB.absW {test : Expr} {body orelse : List Stmt} {P : Loc → Hp → Prop} {Q : Fl → Loc → Hp → Prop}
  (h : ∀ Qt Qe, AbsQ (turnQ P Q) Qt → AbsQ Q Qe → TB prog w s₀ A env test (fun b m1 H1 => if b = true then TS prog w s₀ A env body Qt m1 H1 else TS prog w s₀ A env orelse Qe m1 H1) m H) :
  TB prog w s₀ A env test (fun b m1 H1 => if b = true then TS prog w s₀ A env body (turnQ P Q) m1 H1 else TS prog w s₀ A env orelse Q m1 H1) m H := h _ _ (fun _ _ _ x => x) (fun _ _ _ x => x)
theorem useQ {Q Q' : Fl → Loc → Hp → Prop} {f : Fl} (h : AbsQ Q Q') (x : Q f m H) : Q' f m H := h f m H x
theorem held_of (n : String) {env : Env} {sc : Scope} (h : env.scope = sc) (e : ((sc.names.lookup (Str.ofString n) == some .local || sc.names.lookup (Str.ofString n) == some .cell || sc.names.lookup (Str.ofString n) == some .free) && !(Str.ofString n == ("__classdict__" : Str)) && !(Str.ofString n == ("__debug__" : Str))) = true) : heldN env (Str.ofString n) = true := by subst h; exact e
theorem stored_of (n : String) {env : Env} {sc : Scope} (h : env.scope = sc) (e : (sc.names.lookup (Str.ofString n) == some .local) = true) : stored? env (Str.ofString n) = true := by subst h; unfold stored?; rw [Bool.or_eq_true]; exact Or.inl e
theorem kind_c (n : String) {env : Env} {sc : Scope} (h : env.scope = sc) (e : sc.names.lookup (Str.ofString n) = some .cell) : env.kindOf (Str.ofString n) = some .cell := by subst h; exact e
theorem def_eq {a : Option DefParts} {p d : DefParts} (h : a = some p) (e : a = some d) : p = d := Option.some.inj (h.symm.trans e)
theorem env_of {E env : Env} {S sc : Scope} (h : E = env) (hs : S = sc) (a : E.scope = S) (k : sc.kind = .function) (g : E.globals = mainGlobals) (b : E.builtins = builtinsNs) : EnvOk env ∧ env.scope = sc := by subst h hs; exact ⟨⟨a.symm ▸ k, g, b⟩, a⟩
theorem kind_g (n : String) {env : Env} {sc : Scope} (h : env.scope = sc) (e : sc.names.lookup (Str.ofString n) = some .globalImplicit) : env.kindOf (Str.ofString n) = some .globalImplicit := by subst h; exact e
theorem kind_of {env : Env} {sc : Scope} (h : env.scope = sc) {x : Str} {k : NameKind} (e : sc.names.lookup x = some k) : env.kindOf x = some k := by subst h; exact e
theorem len1 {α : Type} : ∀ {l : List α}, l.length = 1 → ∃ a, l = [a]
 | [a], _ => ⟨a, rfl⟩
theorem len2 {α : Type} : ∀ {l : List α}, l.length = 2 → ∃ a b, l = [a, b]
 | [a, b], _ => ⟨a, b, rfl⟩
theorem len3 {α : Type} : ∀ {l : List α}, l.length = 3 → ∃ a b c, l = [a, b, c]
 | [a, b, c], _ => ⟨a, b, c, rfl⟩
theorem Loc.put_self {x : Str} {v : V} : m.put x v x = some v := by unfold Loc.put; rw [if_pos rfl]
theorem Loc.put_is {x : Str} {v v' : V} (h : v = v') : m.put x v x = some v' := by rw [← h]; exact Loc.put_self
theorem Loc.put_other {x y : String} {v : V} {r : Option V} (h : y ≠ x) (e : m (Str.ofString y) = r) : m.put (Str.ofString x) v (Str.ofString y) = r := by unfold Loc.put; rw [if_neg (fun q => h ((ofString_eq _ _).mp q))]; exact e
end
theorem gAssignName {x pos' value pos} {Q : Fl → Loc → Hp → Prop} (h : T1 prog w s₀ A env (.Assign [.Name x pos'] value pos) Q m H) : T1 prog w s₀ A env (.Assign [.Name x pos'] value pos) Q m H := h
theorem gAssignSub {o i pos' value pos} {Q : Fl → Loc → Hp → Prop} (h : T1 prog w s₀ A env (.Assign [.Subscript o i pos'] value pos) Q m H) : T1 prog w s₀ A env (.Assign [.Subscript o i pos'] value pos) Q m H := h
theorem gExpr {e pos} {Q : Fl → Loc → Hp → Prop} (h : T1 prog w s₀ A env (.Expr e pos) Q m H) : T1 prog w s₀ A env (.Expr e pos) Q m H := h
theorem gCmp {a ops bs pos} {Q : V → Loc → Hp → Prop} (h : TE prog w s₀ A env (.Compare a ops bs pos) Q m H) : TE prog w s₀ A env (.Compare a ops bs pos) Q m H := h
theorem gCmpB {a ops bs pos} {Q : Bool → Loc → Hp → Prop} (h : TB prog w s₀ A env (.Compare a ops bs pos) Q m H) : TB prog w s₀ A env (.Compare a ops bs pos) Q m H := h
theorem gCall {f args kws pos} {Q : V → Loc → Hp → Prop} (h : TE prog w s₀ A env (.Call f args kws pos) Q m H) : TE prog w s₀ A env (.Call f args kws pos) Q m H := h
theorem gMeth {o nm p args kws pos} {Q : V → Loc → Hp → Prop} (h : TE prog w s₀ A env (.Call (.Attribute o nm p) args kws pos) Q m H) : TE prog w s₀ A env (.Call (.Attribute o nm p) args kws pos) Q m H := h
theorem gTL {pos es} {Q : List V → Loc → Hp → Prop} (h : TL prog w s₀ A env pos es Q m H) : TL prog w s₀ A env pos es Q m H := h
theorem gTB {e} {Q : Bool → Loc → Hp → Prop} (h : TB prog w s₀ A env e Q m H) : TB prog w s₀ A env e Q m H := h
theorem gName {x pos} {Q : V → Loc → Hp → Prop} (h : TE prog w s₀ A env (.Name x pos) Q m H) : TE prog w s₀ A env (.Name x pos) Q m H := h
theorem gAug {x pos' op value pos} {Q : Fl → Loc → Hp → Prop} (h : T1 prog w s₀ A env (.AugAssign (.Name x pos') op value pos) Q m H) : T1 prog w s₀ A env (.AugAssign (.Name x pos') op value pos) Q m H := h
theorem iteF {P Q : Prop} [Decidable (false = true)] (h : Q) : if false = true then P else Q := by rw [if_neg Bool.false_ne_true]; exact h
theorem iteT {P Q : Prop} [Decidable (true = true)] (h : P) : if true = true then P else Q := by rw [if_pos rfl]; exact h
theorem gAssignAttr {o at' pos' value pos} {Q : Fl → Loc → Hp → Prop} (h : T1 prog w s₀ A env (.Assign [.Attribute o at' pos'] value pos) Q m H) : T1 prog w s₀ A env (.Assign [.Attribute o at' pos'] value pos) Q m H := h
theorem gAugAttr {o at' pos' op value pos} {Q : Fl → Loc → Hp → Prop} (h : T1 prog w s₀ A env (.AugAssign (.Attribute o at' pos') op value pos) Q m H) : T1 prog w s₀ A env (.AugAssign (.Attribute o at' pos') op value pos) Q m H := h
theorem gAttr {o at' pos} {Q : V → Loc → Hp → Prop} (h : TE prog w s₀ A env (.Attribute o at' pos) Q m H) : TE prog w s₀ A env (.Attribute o at' pos) Q m H := h
local macro_rules | `(tactic| walk_at $s:str) => match s.getString with
 | "look" => `(tactic| first | with_reducible exact Loc.put_self | ((with_reducible refine Loc.put_is ?_); exact rfl) | ((with_reducible refine Loc.put_other (by decide +kernel) ?_); walk_at "look") | assumption)
 | "has" => `(tactic| first | exact Has.nil | (refine Has.cons (by walk_at "look") ?_; walk_at "has"))
 | "go" => do
  let all (s : String) := (s.splitOn " ").mapM wAlt
  let names ← wFirst (← all "TE.name:aal_ TE.glob:aaaag_ TE.boot:aaaaa_")
  wFirst ((← all "TS.cons TS.nil") ++ (← `(tactic| ((with_reducible refine gName ?_); $names:tactic))) ::
   (← all "TE.const_int TE.sub TE.binop gAssignName>T1.assign_name:aa_ gAssignSub>T1.assign_sub T1.ifs Op2.add Op2.sub Op2.mul:_m Op2.mul:_n Op2.lt Op2.gt Op2.le Op2.eq Op2.ne OpB.bool OpB.int gCmp>TE.cmp gCmpB>TB.cmp TB.not TB.bool gTB>TB.val TAll.and_cons TAll.or_cons TAll.and_nil TAll.or_nil T1.brk T1.cont T1.ret gExpr>T1.expr:a_ TE.const_none TE.const_bool gMeth>TE.meth gCall>TE.call And.intro:k_ TL.nil gTL>TL.cons TE.slice TPart.none TPart.some Or.inr:p Or.inl:q TE.unary Op1.neg TE.or2 OpB.none TE.const_str gAug>T1.aug_name:aaal_ Op2.iadd Op2.isub gAssignAttr>T1.assign_attr gAugAttr>T1.aug_attr gAttr>TE.attr TE.named Op2.fmod:_d Op2.fdiv:_dd TE.ifexp TE.tuple iteF iteT") ++ [← `(tactic| dsimp only [seqQ, turnQ, retV])])
 | _ => Lean.Macro.throwUnsupported
noncomputable abbrev T := Int × Int × Int
noncomputable def sd (x : T) (xs : List T) (p : Nat) : List T :=
 Nat.lt_wfRel.wf.fix (C := fun _ => List T → List T) (fun p ih xs => if h : p = 0 then xs.set 0 x else
  if lex3 x (xs.getD ((p - 1) / 2) (0, 0, 0)) then ih ((p - 1) / 2) (show (p - 1) / 2 < p by exact o16 h) (xs.set p (xs.getD ((p - 1) / 2) (0, 0, 0))) else xs.set p x) p xs
theorem sd_eq (x : T) (xs : List T) (p : Nat) : sd x xs p = if h : p = 0 then xs.set 0 x else
  if lex3 x (xs.getD ((p - 1) / 2) (0, 0, 0)) then sd x (xs.set p (xs.getD ((p - 1) / 2) (0, 0, 0))) ((p - 1) / 2) else xs.set p x := by
 unfold sd
 exact congrFun (WellFounded.fix_eq (C := fun _ => List T → List T) _ _ _) xs
theorem sd_ind (x : T) {M : List T → Nat → Prop} (case1 : ∀ xs, sd x xs 0 = xs.set 0 x → M xs 0)
  (case2 : ∀ xs p, p ≠ 0 → lex3 x (xs.getD ((p - 1) / 2) (0, 0, 0)) = true → sd x xs p = sd x (xs.set p (xs.getD ((p - 1) / 2) (0, 0, 0))) ((p - 1) / 2) → M (xs.set p (xs.getD ((p - 1) / 2) (0, 0, 0))) ((p - 1) / 2) → M xs p)
  (case3 : ∀ xs p, p ≠ 0 → ¬ lex3 x (xs.getD ((p - 1) / 2) (0, 0, 0)) = true → sd x xs p = xs.set p x → M xs p) (xs : List T) (p : Nat) : M xs p := by
 induction p using Nat.strongRecOn generalizing xs with
 | ind p ih =>
  have e := sd_eq x xs p
  by_cases h : p = 0
  ·subst h; exact case1 xs e
  ·rw [dif_neg h] at e
   by_cases l : lex3 x (xs.getD ((p - 1) / 2) (0, 0, 0)) = true
   ·rw [if_pos l] at e; exact case2 xs p h l e (ih _ (by exact o16 h) _)
   ·rw [if_neg l] at e; exact case3 xs p h l e

theorem get_T3 {l : List T} {i : Nat} (h : i < l.length) : (l.map T3)[(i : Int).toNat]? = some (T3 (l.getD i (0,0,0))) := by
 simp [h]
theorem Hp.put_put {H : Hp} {a : Addr} {o o' : O} : (H.put a o).put a o' = H.put a o' := by funext b; simp only [Hp.put]; split <;> rfl
theorem Hp.put_id {H : Hp} {a : Addr} {o : O} (h : H a = some o) : H.put a o = H := by funext b; simp only [Hp.put]; split <;> simp_all
theorem siftdown_body (p : DefParts) (hp : topDef 16 = some p) {fa : Addr} {n q : Str} {dv kv dc pm : Value} {an : Option Addr} {cd ct : Value} (L : Addr) (hu : A.units < cLine)
  {a : Addr} {xs : List T} {k : Nat} (ha : H a = some (.list (xs.map T3))) (hk : k < xs.length) (hl : xs.length < 1000) {Q : V → Hp → Prop} (h : Q .none (H.put a (.list ((sd (xs.getD k (0,0,0)) xs k).map T3)))) :
  TS prog w s₀ A (callEnv (mkFd p n q dv kv dc pm an cd ct) L fa) p.body (fun f _ H1 => Q (retV f) H1) (Loc.ofArgs [(Str.ofString "heap", V.ref a), (Str.ofString "startpos", .int 0), (Str.ofString "pos", .int k)]) H := by
 walk_at "prog,w,s₀,H,A,p,fa,n,q,dv,kv,dc,pm,an,cd,ct,L,a,xs,k,Q|hp,hu,ha,hk,hl,h"
 simp only [Loc.ofArgs, List.foldl]
 have e := def_eq hp rfl
 have hb := congrArg DefParts.body e
 have hs := congrArg DefParts.scope e
 dsimp only at hb hs
 rw [hb]
 generalize henv : callEnv (mkFd p n q dv kv dc pm an cd ct) L fa = env
 obtain ⟨hE, hsc⟩ := env_of henv hs rfl rfl rfl rfl
 have k1 := held_of "heap" hsc rfl
 have k2 := held_of "startpos" hsc rfl
 have k3 := held_of "pos" hsc rfl
 have k4 := held_of "newitem" hsc rfl
 have k5 := held_of "parentpos" hsc rfl
 have k6 := held_of "parent" hsc rfl
 have s3 := stored_of "pos" hsc rfl
 have s4 := stored_of "newitem" hsc rfl
 have s5 := stored_of "parentpos" hsc rfl
 have s6 := stored_of "parent" hsc rfl
 clear hsc henv hs hb e hp
 repeat' walk_at "go"
 refine Op2.tail_list (fun _ _ => ⟨_, rfl⟩) ha (Op2.item_list (v := T3 (xs.getD k (0,0,0))) ha (by exact o1) (by exact o74 hk hl) (get_T3 hk) ?_)
 repeat' walk_at "go"
 refine T1.whiles (fun n m H' => ∃ ys, Has m [(Str.ofString "heap", .ref a), (Str.ofString "startpos", .int 0), (Str.ofString "pos", .int n), (Str.ofString "newitem", T3 (xs.getD k (0,0,0)))] ∧
  H' = H.put a (.list (ys.map T3)) ∧ ys.length = xs.length ∧ n < xs.length ∧ sd (xs.getD k (0,0,0)) ys n = sd (xs.getD k (0,0,0)) xs k) ?_ k ?_
 ·rintro n m H' ⟨ys, hm, rfl, hy, hn, hsd⟩
  walk_at "n,m,ys|hm,hy,hn,hsd"
  refine TB.has hm ?_
  simp only [Loc.ofArgs, List.foldl]
  have ha' : (H.put a (.list (ys.map T3))) a = some (.list (ys.map T3)) := by simp [Hp.put]
  repeat' walk_at "go"
  rw [sd_eq] at hsd
  by_cases hn0 : n = 0
  ·subst hn0
   rw [if_neg (by simp)]
   repeat' walk_at "go"
   refine OpU.setItem_list ha' (by exact o75) (by exact o76) (by simp; exact o77 hk hy) ?_
   repeat' walk_at "go"
   rw [← hsd, dif_pos rfl, List.map_set] at h
   rw [Hp.put_put]
   exact h
  ·rw [if_pos (by simp; exact o21 hn0)]
   repeat' walk_at "go"
   refine Op2.shr ?_ (by exact o78)
   have e : ((n : Int) - 1).fdiv (2 ^ (1 : Int).toNat) = (((n - 1) / 2 : Nat) : Int) := by
    rw [Int.fdiv_eq_ediv_of_nonneg _ (by simp)]
    have : ((n : Int) - 1) = ((n - 1 : Nat) : Int) := by exact o79 hn0
    rw [this]; simp
   rw [e]
   repeat' walk_at "go"
   refine Op2.tail_list (fun _ _ => ⟨_, rfl⟩) ha' (Op2.item_list (v := T3 (ys.getD ((n - 1) / 2) (0,0,0))) ha' (by exact o80) (by exact o81 hl hn) (get_T3 (by exact o82 hy hn)) ?_)
   repeat' walk_at "go"
   refine Op2.lt3 hu ?_
   repeat' walk_at "go"
   rw [dif_neg hn0] at hsd
   by_cases hlt : lex3 (xs.getD k (0,0,0)) (ys.getD ((n - 1) / 2) (0,0,0)) = true
   ·rw [if_pos hlt] at hsd ⊢
    repeat' walk_at "go"
    refine OpU.setItem_list ha' (by exact o1) (by exact o35 hl hn) (by simp; exact o7 hy hn) ?_
    repeat' walk_at "go"
    refine ⟨(n - 1) / 2, by exact o16 hn0, ys.set n (ys.getD ((n - 1) / 2) (0,0,0)), ?_, by rw [Hp.put_put, List.map_set]; rfl, by simp [hy], by exact o10 hn, hsd⟩
    walk_at "has"
   ·rw [if_neg hlt] at hsd ⊢
    repeat' walk_at "go"
    refine OpU.setItem_list ha' (by exact o1) (by exact o35 hl hn) (by simp; exact o7 hy hn) ?_
    repeat' walk_at "go"
    rw [← hsd, List.map_set] at h
    rw [Hp.put_put]
    exact h
 ·refine ⟨xs, ?_, (Hp.put_id ha).symm, rfl, hk, rfl⟩
  walk_at "has"
/-! guards: they fail fast where the goal is another one -/
theorem seqIdx {k n : Nat} (h : k < n) : seqIndex? (k : Int) n = some k := by unfold seqIndex?; simp; omega
theorem rng_get {n : Nat} {i : Nat} {x : V} (h : ((List.range ((n : Int) - 0).toNat).map fun (i : Nat) => V.int (0 + i))[i]? = some x) : i < n ∧ x = .int i := by
 walk_at "n,i,x|h"
 rw [List.getElem?_map] at h
 cases e : (List.range ((n : Int) - 0).toNat)[i]? with
 | none => rw [e] at h; cases h
 | some j =>
  rw [e] at h; cases h
  obtain ⟨h1, h2⟩ := List.getElem?_eq_some_iff.mp e
  simp at h1 h2
  subst h2
  exact ⟨h1, by simp⟩
theorem rng_small (n : Nat) (h : n < 1000000) : Builtin.Range.small 0 (n : Int) 1 = true := small_one (by exact o130) (by exact o131) (by exact o132) (by exact o133 h)
structure Room (A : Around) (n : Nat) : Prop where
 h : A.handled = none
 d : A.depth + n ≤ 1000
 u : A.units + 3 * n ≤ 9000
theorem Room.lt {n : Nat} (r : Room A (n + 1)) : A.depth < recursionLimit := by have := r.d; unfold recursionLimit; exact o134 this
theorem Room.deeper {n : Nat} (r : Room A (n + 1)) (env : Env) : Room (A.deeper env) n := ⟨r.h, by have := r.d; show A.depth + 1 + n ≤ 1000; exact o135 this, by have := r.u; show A.units + 3 + 3 * n ≤ 9000; exact o136 this⟩
theorem Room.units {n : Nat} (r : Room A n) : A.units < cLine := by have := r.u; unfold cLine; exact o137 this
theorem keep_bi (x : String) : KeepOk prog w s₀ (.raw (.builtin x)) := .val (fun a h => by cases h)
theorem keep_ty (x : String) : KeepOk prog w s₀ (.raw (.type x)) := .val (fun a h => by cases h)
theorem keep_at {fa : Addr} {p : DefParts} {dv : Value} (h : At s₀ fa p dv) : KeepOk prog w s₀ (.raw (.ref fa)) := by
 walk_at "prog,w,s₀,fa,p,dv|h"
 obtain ⟨o, n, q, kv, dc, pm, an, cd, ct, h1, h2, h3⟩ := h.ex
 exact .fn h1 h2
theorem tc_siftdown {n : Nat} (hA : ∃ p, topDef 16 = some p ∧ At s₀ 176 p .none) (r : Room A (n + 1)) {a : Addr} {xs : List T} {k : Nat} (ha : H a = some (.list (xs.map T3))) (hk : k < xs.length) (hl : xs.length < 1000) {Q : V → Hp → Prop}
  (h : Q .none (H.put a (.list ((sd (xs.getD k (0,0,0)) xs k).map T3)))) : TC prog w s₀ A (.raw (.ref 176)) [.ref a, .int 0, .int k] Q H := by
 obtain ⟨p, hp, hat⟩ := hA
 have e := def_eq hp rfl
 have hpar := congrArg DefParts.params e
 have hs := congrArg DefParts.scope e
 dsimp only at hs hpar
 refine TC.at (names := [Str.ofString "heap", Str.ofString "startpos", Str.ofString "pos"]) hat r.lt (by rw [hs]; rfl) rfl (fun n q kv dc pm an cd ct xs hx => ?_) (by rw [hs]; rfl) (fun n q kv dc pm an cd ct L => ?_)
 ·obtain ⟨x, y, z, rfl⟩ := Mine.len3 hx; unfold mkFd; rw [hpar]; rfl
 ·exact siftdown_body p hp L (r.deeper _).units ha hk hl h
structure Prg (s₀ : Shared) (mg mb : Str → Option Value) : Prop where
 G : Glo s₀ mg mb
 f5 : mg (Str.ofString "_substitution_cost") = some (.ref 28)
 d5 : ∃ p, topDef 5 = some p ∧ At s₀ 28 p .none
 f6 : mg (Str.ofString "_levenshtein_distance") = some (.ref 35)
 d6 : ∃ p, topDef 6 = some p ∧ At s₀ 35 p .none
 f14 : mg (Str.ofString "heappush") = some (.ref 162)
 d14 : ∃ p, topDef 14 = some p ∧ At s₀ 162 p .none
 f15 : mg (Str.ofString "heappop") = some (.ref 169)
 d15 : ∃ p, topDef 15 = some p ∧ At s₀ 169 p .none
 f16 : mg (Str.ofString "_siftdown") = some (.ref 176)
 d16 : ∃ p, topDef 16 = some p ∧ At s₀ 176 p .none
 f17 : mg (Str.ofString "_siftup") = some (.ref 183)
 d17 : ∃ p, topDef 17 = some p ∧ At s₀ 183 p .none
 f19 : mg (Str.ofString "_law_word") = some (.ref 190)
 d19 : ∃ p, topDef 19 = some p ∧ At s₀ 190 p .none
 f20 : mg (Str.ofString "_law_steps") = some (.ref 197)
 d20 : ∃ p, topDef 20 = some p ∧ At s₀ 197 p .none
 f21 : mg (Str.ofString "_law_ways") = some (.ref 204)
 d21 : ∃ p, topDef 21 = some p ∧ At s₀ 204 p .none
 c_MAX_STRING_SIZE : ∃ t, mg (Str.ofString "_MAX_STRING_SIZE") = some (.int (40) t)
 c_MOVE_COST : ∃ t, mg (Str.ofString "_MOVE_COST") = some (.int (2) t)
 c_CASE_COST : ∃ t, mg (Str.ofString "_CASE_COST") = some (.int (1) t)
 c_NODE_OUT : ∃ t, mg (Str.ofString "_NODE_OUT") = some (.int (-1) t)
 c_NODE_DONE : ∃ t, mg (Str.ofString "_NODE_DONE") = some (.int (-2) t)
 k_NodeInfo : mg (Str.ofString "_NodeInfo") = some (.ref 54)
 kCycleError : mg (Str.ofString "CycleError") = some (.ref 69)
 kTopologicalSorter : mg (Str.ofString "TopologicalSorter") = some (.ref 151)
 nlen : mg (Str.ofString "len") = none
 nrange : mg (Str.ofString "range") = none
 nmin : mg (Str.ofString "min") = none
 nlist : mg (Str.ofString "list") = none
 nsum : mg (Str.ofString "sum") = none
 nsorted : mg (Str.ofString "sorted") = none
 ntuple : mg (Str.ofString "tuple") = none
 nset : mg (Str.ofString "set") = none
 niter : mg (Str.ofString "iter") = none
 nbool : mg (Str.ofString "bool") = none
 nStopIteration : mg (Str.ofString "StopIteration") = none
 nValueError : mg (Str.ofString "ValueError") = none
theorem boot_len : bootBuiltins (Str.ofString "len") = some (.builtin "len") := by rfl
theorem boot_range : bootBuiltins (Str.ofString "range") = some (.type "range") := by rfl
theorem boot_min : bootBuiltins (Str.ofString "min") = some (.builtin "min") := by rfl
theorem boot_list : bootBuiltins (Str.ofString "list") = some (.type "list") := by rfl
theorem boot_sum : bootBuiltins (Str.ofString "sum") = some (.builtin "sum") := by rfl
theorem boot_sorted : bootBuiltins (Str.ofString "sorted") = some (.builtin "sorted") := by rfl
theorem boot_tuple : bootBuiltins (Str.ofString "tuple") = some (.type "tuple") := by rfl
theorem boot_set : bootBuiltins (Str.ofString "set") = some (.type "set") := by rfl
theorem boot_iter : bootBuiltins (Str.ofString "iter") = some (.builtin "iter") := by rfl
theorem boot_bool : bootBuiltins (Str.ofString "bool") = some (.type "bool") := by rfl
theorem boot_StopIteration : bootBuiltins (Str.ofString "StopIteration") = some (.type "StopIteration") := by rfl
theorem boot_ValueError : bootBuiltins (Str.ofString "ValueError") = some (.type "ValueError") := by rfl
noncomputable abbrev low (n : Nat) (xs : List T) (p : Nat) : Nat := if 2 * p + 2 < n ∧ lex3 (xs.getD (2 * p + 1) (0,0,0)) (xs.getD (2 * p + 2) (0,0,0)) = false then 2 * p + 2 else 2 * p + 1
theorem low_gt (n : Nat) (xs : List T) (p : Nat) : p < low n xs p := by unfold low; split <;> omega
theorem low_lt {n : Nat} (xs : List T) {p : Nat} (h : 2 * p + 1 < n) : low n xs p < n := by unfold low; split <;> omega
noncomputable def desc (n : Nat) (xs : List T) (p : Nat) : List T × Nat :=
 (measure fun p : Nat => n - p).wf.fix (C := fun _ => List T → List T × Nat) (fun p ih xs => if h : 2 * p + 1 < n then
  ih (low n xs p) (Nat.sub_lt_sub_left (by exact o27 h) (low_gt n xs p)) (xs.set p (xs.getD (low n xs p) (0,0,0)))
 else (xs, p)) p xs
theorem desc_eq (n : Nat) (xs : List T) (p : Nat) : desc n xs p = if h : 2 * p + 1 < n then desc n (xs.set p (xs.getD (low n xs p) (0,0,0))) (low n xs p) else (xs, p) := by
 unfold desc
 exact congrFun (WellFounded.fix_eq (C := fun _ => List T → List T × Nat) _ _ _) xs
theorem desc_ind (n : Nat) {M : List T → Nat → Prop} (case1 : ∀ xs p, 2 * p + 1 < n → desc n xs p = desc n (xs.set p (xs.getD (low n xs p) (0,0,0))) (low n xs p) → M (xs.set p (xs.getD (low n xs p) (0,0,0))) (low n xs p) → M xs p)
  (case2 : ∀ xs p, ¬ 2 * p + 1 < n → desc n xs p = (xs, p) → M xs p) (xs : List T) (p : Nat) : M xs p := by
 refine (measure fun p : Nat => n - p).wf.induction (C := fun p => ∀ xs, M xs p) p (fun p ih xs => ?_) xs
 have e := desc_eq n xs p
 by_cases h : 2 * p + 1 < n
 ·rw [dif_pos h] at e; exact case1 xs p h e (ih _ (Nat.sub_lt_sub_left (by exact o27 h) (low_gt n xs p)) _)
 ·rw [dif_neg h] at e; exact case2 xs p h e
theorem desc_len (n : Nat) (xs : List T) (p : Nat) : (desc n xs p).1.length = xs.length := by
 induction xs, p using desc_ind n with
 | case1 xs p h e ih => rw [e, ih, List.length_set]
 | case2 xs p h e => rw [e]
noncomputable def su (xs : List T) : List T :=
 let r := desc xs.length xs 0
 sd (xs.getD 0 (0,0,0)) (r.1.set r.2 (xs.getD 0 (0,0,0))) r.2
theorem siftup_body (p : DefParts) (hp : topDef 17 = some p) {fa : Addr} {n q : Str} {dv kv dc pm : Value} {an : Option Addr} {cd ct : Value} (L : Addr) {rn : Nat} (r : Room A (rn + 1)) (G : Glo s₀ mg mb)
  (f16 : mg (Str.ofString "_siftdown") = some (.ref 176)) (hA : ∃ p, topDef 16 = some p ∧ At s₀ 176 p .none) (hlen : mg (Str.ofString "len") = none) (blen : bootBuiltins (Str.ofString "len") = some (.builtin "len"))
  {a : Addr} {xs : List T} (ha : H a = some (.list (xs.map T3))) (hk : 0 < xs.length) (hl : xs.length < 1000) {Q : V → Hp → Prop} (h : Q .none (H.put a (.list ((su xs).map T3)))) :
  TS prog w s₀ A (callEnv (mkFd p n q dv kv dc pm an cd ct) L fa) p.body (fun f _ H1 => Q (retV f) H1) (Loc.ofArgs [(Str.ofString "heap", V.ref a), (Str.ofString "pos", .int 0)]) H := by
 walk_at "prog,w,s₀,H,A,mg,mb,p,fa,n,q,dv,kv,dc,pm,an,cd,ct,L,rn,a,xs,Q|hp,r,G,f16,hA,hlen,blen,ha,hk,hl,h"
 simp only [Loc.ofArgs, List.foldl]
 have e := def_eq hp rfl
 have hb := congrArg DefParts.body e
 have hs := congrArg DefParts.scope e
 dsimp only at hb hs
 rw [hb]
 generalize henv : callEnv (mkFd p n q dv kv dc pm an cd ct) L fa = env
 obtain ⟨hE, hsc⟩ := env_of henv hs rfl rfl rfl rfl
 have k0 := held_of "heap" hsc rfl
 have k1 := held_of "pos" hsc rfl
 have k2 := held_of "endpos" hsc rfl
 have k3 := held_of "startpos" hsc rfl
 have k4 := held_of "newitem" hsc rfl
 have k5 := held_of "childpos" hsc rfl
 have k6 := held_of "rightpos" hsc rfl
 have s0 := stored_of "pos" hsc rfl
 have s1 := stored_of "endpos" hsc rfl
 have s2 := stored_of "startpos" hsc rfl
 have s3 := stored_of "newitem" hsc rfl
 have s4 := stored_of "childpos" hsc rfl
 have s5 := stored_of "rightpos" hsc rfl
 have g0 := kind_g "len" hsc rfl
 have g1 := kind_g "_siftdown" hsc rfl
 clear hsc henv hs hb e hp
 have hu := r.units
 have kl : KeepOk prog w s₀ (.raw (.builtin "len")) := keep_bi _
 have kf : KeepOk prog w s₀ (.raw (.ref 176)) := by obtain ⟨p, _, h⟩ := hA; exact keep_at h
 repeat' walk_at "go"
 refine TC.len_list ha (by simp; exact o180 hl) ?_
 simp only [List.length_map]
 repeat' walk_at "go"
 refine Op2.tail_list (fun _ _ => ⟨_, rfl⟩) ha (Op2.item_list (v := T3 (xs.getD 0 (0,0,0))) ha (by exact o13) (by exact o14) (get_T3 hk) ?_)
 repeat' walk_at "go"
 refine T1.whiles (fun n m H' => ∃ ys p, n = xs.length - p ∧ Has m [(Str.ofString "heap", .ref a), (Str.ofString "startpos", .int 0), (Str.ofString "pos", .int (p : Nat)), (Str.ofString "newitem", T3 (xs.getD 0 (0,0,0))),
   (Str.ofString "endpos", .int xs.length), (Str.ofString "childpos", .int (2 * (p : Int) + 1))] ∧
  H' = H.put a (.list (ys.map T3)) ∧ ys.length = xs.length ∧ p < xs.length ∧ desc xs.length ys p = desc xs.length xs 0) ?_ xs.length ?_
 ·rintro n m H' ⟨ys, p, rfl, hm, rfl, hy, hn, hds⟩
  walk_at "n,m,ys,p|hm,hy,hn,hds"
  refine TB.has hm ?_
  simp only [Loc.ofArgs, List.foldl]
  have ha' : (H.put a (.list (ys.map T3))) a = some (.list (ys.map T3)) := by simp [Hp.put]
  repeat' walk_at "go"
  rw [desc_eq] at hds
  unfold low at hds
  by_cases hc : 2 * p + 1 < xs.length
  ·rw [if_pos (by simp; exact o181 hc)]
   rw [dif_pos hc] at hds
   repeat' walk_at "go"
   rw [if_neg (Bool.false_ne_true)]
   by_cases hr : 2 * p + 2 < xs.length
   ·rw [if_pos (by simp; exact o182 hr)]
    repeat' walk_at "go"
    refine Op2.tail_list (fun _ _ => ⟨_, rfl⟩) ha' (Op2.item_list (v := T3 (ys.getD (2 * p + 1) (0,0,0))) ha' (by exact o28) (by omega) (by rw [show (2 * (p : Int) + 1) = ((2 * p + 1 : Nat) : Int) from by exact o29]; exact get_T3 (by exact o30 hy hc)) ?_)
    repeat' walk_at "go"
    refine Op2.tail_list (fun _ _ => ⟨_, rfl⟩) ha' (Op2.item_list (v := T3 (ys.getD (2 * p + 2) (0,0,0))) ha' (by exact o49) (by omega) (by rw [show (2 * (p : Int) + 1 + 1) = ((2 * p + 2 : Nat) : Int) from by exact o50]; exact get_T3 (by exact o51 hy hr)) ?_)
    repeat' walk_at "go"
    refine Op2.lt3 hu ?_
    repeat' walk_at "go"
    cases hlx : lex3 (ys.getD (2 * p + 1) (0,0,0)) (ys.getD (2 * p + 2) (0,0,0)) with
    | false =>
     simp only [hr, hlx, and_self, if_true] at hds
     rw [if_pos (by simp)]
     repeat' walk_at "go"
     repeat' walk_at "go"
     refine Op2.tail_list (fun _ _ => ⟨_, rfl⟩) ha' (Op2.item_list (v := T3 (ys.getD (2 * p + 2) (0,0,0))) ha' (by exact o49) (by omega) (by rw [show (2 * (p : Int) + 1 + 1) = ((2 * p + 2 : Nat) : Int) from by exact o50]; exact get_T3 (by exact o51 hy hr)) ?_)
     repeat' walk_at "go"
     refine OpU.setItem_list ha' (by exact o1) (by omega) (by simp; exact o7 hy hn) ?_
     repeat' walk_at "go"
     refine ⟨xs.length - (2 * p + 2), by exact o183 hn, ys.set p (ys.getD (2 * p + 2) (0,0,0)), 2 * p + 2, rfl, ?_, by rw [Hp.put_put, List.map_set]; rfl, by simp [hy], by exact o184 hr, hds⟩
     rw [show (((2 * p + 2 : Nat)) : Int) = 2 * (p : Int) + 1 + 1 from by exact o185]
     walk_at "has"
    | true =>
     simp only [hlx, Bool.true_eq_false, and_false, if_false] at hds
     rw [if_neg (by simp), if_neg (by simp)]
     repeat' walk_at "go"
     refine Op2.tail_list (fun _ _ => ⟨_, rfl⟩) ha' (Op2.item_list (v := T3 (ys.getD (2 * p + 1) (0,0,0))) ha' (by exact o28) (by omega) (by rw [show (2 * (p : Int) + 1) = ((2 * p + 1 : Nat) : Int) from by exact o29]; exact get_T3 (by exact o30 hy hc)) ?_)
     repeat' walk_at "go"
     refine OpU.setItem_list ha' (by exact o1) (by omega) (by simp; exact o7 hy hn) ?_
     repeat' walk_at "go"
     refine ⟨xs.length - (2 * p + 1), by exact o52 hn, ys.set p (ys.getD (2 * p + 1) (0,0,0)), 2 * p + 1, rfl, ?_, by rw [Hp.put_put, List.map_set]; rfl, by simp [hy], by exact o53 hc, hds⟩
     rw [show (((2 * p + 1 : Nat)) : Int) = 2 * (p : Int) + 1 from by exact o54]
     walk_at "has"
   ·rw [if_neg (by simp; exact o186 hr)]
    simp only [hr, false_and, if_false] at hds
    repeat' walk_at "go"
    refine Op2.tail_list (fun _ _ => ⟨_, rfl⟩) ha' (Op2.item_list (v := T3 (ys.getD (2 * p + 1) (0,0,0))) ha' (by exact o28) (by omega) (by rw [show (2 * (p : Int) + 1) = ((2 * p + 1 : Nat) : Int) from by exact o29]; exact get_T3 (by exact o30 hy hc)) ?_)
    repeat' walk_at "go"
    refine OpU.setItem_list ha' (by exact o1) (by omega) (by simp; exact o7 hy hn) ?_
    repeat' walk_at "go"
    refine ⟨xs.length - (2 * p + 1), by exact o52 hn, ys.set p (ys.getD (2 * p + 1) (0,0,0)), 2 * p + 1, rfl, ?_, by rw [Hp.put_put, List.map_set]; rfl, by simp [hy], by exact o53 hc, hds⟩
    rw [show (((2 * p + 1 : Nat)) : Int) = 2 * (p : Int) + 1 from by exact o54]
    walk_at "has"
  ·rw [if_neg (by simp; exact o187 hc)]
   rw [dif_neg hc] at hds
   repeat' walk_at "go"
   refine OpU.setItem_list ha' (by exact o1) (by omega) (by simp; exact o7 hy hn) ?_
   repeat' walk_at "go"
   rw [Hp.put_put]
   repeat' walk_at "go"
   refine tc_siftdown hA r (a := a) (xs := ys.set p (xs.getD 0 (0,0,0))) (k := p) (by simp [Hp.put]) (by simp; exact o7 hy hn) (by simp; omega) ?_
   repeat' walk_at "go"
   rw [Hp.put_put]
   have e0 : (ys.set p (xs.getD 0 (0,0,0))).getD p (0,0,0) = xs.getD 0 (0,0,0) := by simp [hy, hn]
   rw [e0]
   unfold su at h
   rw [← hds] at h
   exact h
 ·refine ⟨xs, 0, rfl, ?_, ?_, rfl, hk, rfl⟩
  ·walk_at "has"
  ·exact (Hp.put_id ha).symm
theorem su_len_sd (x : T) (xs : List T) (p : Nat) : (sd x xs p).length = xs.length := by
 induction xs, p using sd_ind x with
 | case1 xs e => rw [e, List.length_set]
 | case2 xs p h l e ih => rw [e, ih, List.length_set]
 | case3 xs p h l e => rw [e, List.length_set]
noncomputable def hpush (xs : List T) (x : T) : List T := sd x (xs ++ [x]) xs.length
theorem heappush_body (p : DefParts) (hp : topDef 14 = some p) {fa : Addr} {n q : Str} {dv kv dc pm : Value} {an : Option Addr} {cd ct : Value} (L : Addr) {rn : Nat} (r : Room A (rn + 1)) (G : Glo s₀ mg mb)
  (f16 : mg (Str.ofString "_siftdown") = some (.ref 176)) (hA : ∃ p, topDef 16 = some p ∧ At s₀ 176 p .none) (hlen : mg (Str.ofString "len") = none) (blen : bootBuiltins (Str.ofString "len") = some (.builtin "len"))
  {a : Addr} {xs : List T} {x : T} (ha : H a = some (.list (xs.map T3))) (hl : xs.length < 999) {Q : V → Hp → Prop} (h : Q .none (H.put a (.list ((hpush xs x).map T3)))) :
  TS prog w s₀ A (callEnv (mkFd p n q dv kv dc pm an cd ct) L fa) p.body (fun f _ H1 => Q (retV f) H1) (Loc.ofArgs [(Str.ofString "heap", V.ref a), (Str.ofString "item", T3 x)]) H := by
 walk_at "prog,w,s₀,H,A,mg,mb,p,fa,n,q,dv,kv,dc,pm,an,cd,ct,L,rn,a,xs,x,Q|hp,r,G,f16,hA,hlen,blen,ha,hl,h"
 simp only [Loc.ofArgs, List.foldl]
 have e := def_eq hp rfl
 have hb := congrArg DefParts.body e
 have hs := congrArg DefParts.scope e
 dsimp only at hb hs
 rw [hb]
 generalize henv : callEnv (mkFd p n q dv kv dc pm an cd ct) L fa = env
 obtain ⟨hE, hsc⟩ := env_of henv hs rfl rfl rfl rfl
 have k0 := held_of "heap" hsc rfl
 have k1 := held_of "item" hsc rfl
 have g0 := kind_g "len" hsc rfl
 have g1 := kind_g "_siftdown" hsc rfl
 clear hsc henv hs hb e hp
 have hu := r.units
 have kl : KeepOk prog w s₀ (.raw (.builtin "len")) := keep_bi _
 have ka : KeepOk prog w s₀ (.raw (.builtin "list.append")) := keep_bi _
 have kf : KeepOk prog w s₀ (.raw (.ref 176)) := by obtain ⟨p, _, h⟩ := hA; exact keep_at h
 repeat' walk_at "go"
 refine OpM.list ha slot_list_append (by rfl) ?_
 repeat' walk_at "go"
 refine TC.append ha (by simp [sizeLine]; exact o188 hl) ?_
 have e : xs.map T3 ++ [T3 x] = (xs ++ [x]).map T3 := by simp
 rw [e]
 have ha' : (H.put a (.list ((xs ++ [x]).map T3))) a = some (.list ((xs ++ [x]).map T3)) := by simp [Hp.put]
 repeat' walk_at "go"
 refine TC.len_list ha' (by simp; exact o189 hl) ?_
 repeat' walk_at "go"
 rw [show (((xs ++ [x]).map T3).length : Int) - 1 = ((xs.length : Nat) : Int) from by simp]
 refine tc_siftdown hA r (k := xs.length) ha' (by simp) (by rw [List.length_append]; simp; exact o190 hl) ?_
 repeat' walk_at "go"
 rw [Hp.put_put]
 unfold hpush at h
 have e0 : (xs ++ [x]).getD xs.length (0,0,0) = x := by simp
 rw [e0]
 exact h
theorem tc_siftup {n : Nat} (hp : ∃ p, topDef 17 = some p ∧ At s₀ 183 p .none) (r : Room A (n + 2)) (G : Glo s₀ mg mb)
  (f16 : mg (Str.ofString "_siftdown") = some (.ref 176)) (hA : ∃ p, topDef 16 = some p ∧ At s₀ 176 p .none) (hlen : mg (Str.ofString "len") = none) (blen : bootBuiltins (Str.ofString "len") = some (.builtin "len"))
  {a : Addr} {xs : List T} (ha : H a = some (.list (xs.map T3))) (hk : 0 < xs.length) (hl : xs.length < 1000) {Q : V → Hp → Prop}
  (h : Q .none (H.put a (.list ((su xs).map T3)))) : TC prog w s₀ A (.raw (.ref 183)) [.ref a, .int 0] Q H := by
 obtain ⟨p, hp, hat⟩ := hp
 have e := def_eq hp rfl
 have hpar := congrArg DefParts.params e
 have hs := congrArg DefParts.scope e
 dsimp only at hs hpar
 refine TC.at (names := [Str.ofString "heap", Str.ofString "pos"]) hat r.lt (by rw [hs]; rfl) rfl (fun n q kv dc pm an cd ct xs hx => ?_) (by rw [hs]; rfl) (fun n q kv dc pm an cd ct L => ?_)
 ·obtain ⟨x, y, rfl⟩ := Mine.len2 hx; unfold mkFd; rw [hpar]; rfl
 ·exact siftup_body p hp L (r.deeper _) G f16 hA hlen blen ha hk hl h
noncomputable def hpop (ys : List T) (x : T) : T × List T := match ys with
 | [] => (x, [])
 | y :: r => (y, su (x :: r))
theorem heappop_body (p : DefParts) (hp : topDef 15 = some p) {fa : Addr} {n q : Str} {dv kv dc pm : Value} {an : Option Addr} {cd ct : Value} (L : Addr) {rn : Nat} (r : Room A (rn + 2)) (G : Glo s₀ mg mb)
  (f17 : mg (Str.ofString "_siftup") = some (.ref 183)) (hB : ∃ p, topDef 17 = some p ∧ At s₀ 183 p .none)
  (f16 : mg (Str.ofString "_siftdown") = some (.ref 176)) (hA : ∃ p, topDef 16 = some p ∧ At s₀ 176 p .none) (hlen : mg (Str.ofString "len") = none) (blen : bootBuiltins (Str.ofString "len") = some (.builtin "len"))
  {a : Addr} {ys : List T} {x : T} (ha : H a = some (.list ((ys ++ [x]).map T3))) (hl : ys.length < 999) {Q : V → Hp → Prop} (h : Q (T3 (hpop ys x).1) (H.put a (.list ((hpop ys x).2.map T3)))) :
  TS prog w s₀ A (callEnv (mkFd p n q dv kv dc pm an cd ct) L fa) p.body (fun f _ H1 => Q (retV f) H1) (Loc.ofArgs [(Str.ofString "heap", V.ref a)]) H := by
 walk_at "prog,w,s₀,H,A,mg,mb,p,fa,n,q,dv,kv,dc,pm,an,cd,ct,L,rn,a,ys,x,Q|hp,r,G,f17,hB,f16,hA,hlen,blen,ha,hl,h"
 simp only [Loc.ofArgs, List.foldl]
 have e := def_eq hp rfl
 have hb := congrArg DefParts.body e
 have hs := congrArg DefParts.scope e
 dsimp only at hb hs
 rw [hb]
 generalize henv : callEnv (mkFd p n q dv kv dc pm an cd ct) L fa = env
 obtain ⟨hE, hsc⟩ := env_of henv hs rfl rfl rfl rfl
 have k0 := held_of "heap" hsc rfl
 have k1 := held_of "lastelt" hsc rfl
 have k2 := held_of "returnitem" hsc rfl
 have s0 := stored_of "lastelt" hsc rfl
 have s1 := stored_of "returnitem" hsc rfl
 have g0 := kind_g "_siftup" hsc rfl
 clear hsc henv hs hb e hp
 have hu := r.units
 have ka : KeepOk prog w s₀ (.raw (.builtin "list.pop")) := keep_bi _
 have kf : KeepOk prog w s₀ (.raw (.ref 183)) := by obtain ⟨p, _, h⟩ := hB; exact keep_at h
 repeat' walk_at "go"
 refine OpM.list ha F.slot_list_pop (by rfl) ?_
 repeat' walk_at "go"
 rw [List.map_append] at ha
 refine TC.pop ha (by simp [sizeLine]; exact o191 hl) ?_
 have ha' : (H.put a (.list (ys.map T3))) a = some (.list (ys.map T3)) := by simp [Hp.put]
 repeat' walk_at "go"
 refine OpB.list ha' (by simp; exact o192 hl) ?_
 cases ys with
 | nil =>
  rw [if_neg (by simp)]
  repeat' walk_at "go"
  exact h
 | cons y ys =>
  walk_at "y,ys|ha,hl,h,ha'"
  rw [if_pos (by simp)]
  repeat' walk_at "go"
  refine Op2.tail_list (fun _ _ => ⟨_, rfl⟩) ha' (Op2.item_list (v := T3 y) ha' (by exact o13) (by exact o14) (by simp) ?_)
  repeat' walk_at "go"
  refine OpU.setItem_list ha' (by exact o13) (by exact o14) (by simp) ?_
  rw [Hp.put_put]
  repeat' walk_at "go"
  refine tc_siftup hB r G f16 hA hlen blen (xs := x :: ys) (by simp [Hp.put]) (by simp) (by simp at hl ⊢; exact o193 hl) ?_
  repeat' walk_at "go"
  rw [Hp.put_put]
  exact h
/-! heaps -/
noncomputable def le3 (a b : T) : Prop := lex3 b a = false
theorem lx_trans {a b c : Int} {P Q R : Prop} (f : P → Q → R) : a < b ∨ (a = b ∧ P) → b < c ∨ (b = c ∧ Q) → a < c ∨ (a = c ∧ R)
 | .inl h, .inl k => .inl (Int.lt_trans h k)
 | .inl h, .inr k => .inl (k.1 ▸ h)
 | .inr h, .inl k => .inl (h.1 ▸ k)
 | .inr h, .inr k => .inr ⟨h.1.trans k.1, f h.2 k.2⟩
theorem lx_iff {a b : Int} {p q : Bool} {P : Prop} (f : p = false ↔ P) : (if b = a then p else decide (b < a)) = false ↔ a < b ∨ (a = b ∧ P) := by
 by_cases h : b = a
 ·rw [if_pos h, f]; exact ⟨fun x => .inr ⟨h.symm, x⟩, fun x => x.elim (fun y => absurd y (h ▸ Int.lt_irrefl _)) And.right⟩
 ·rw [if_neg h, decide_eq_false_iff_not]
  exact ⟨fun x => .inl (Std.lt_of_le_of_ne (Int.not_lt.mp x) (Ne.symm h)), fun x => x.elim (fun y => Int.not_lt.mpr (Int.le_of_lt y)) fun y => absurd y.1.symm h⟩
theorem le3_iff {a b : T} : le3 a b ↔ a.1 < b.1 ∨ (a.1 = b.1 ∧ (a.2.1 < b.2.1 ∨ (a.2.1 = b.2.1 ∧ a.2.2 ≤ b.2.2))) :=
 lx_iff (q := true) (lx_iff (q := true) (by rw [decide_eq_false_iff_not]; exact Int.not_lt))
theorem le3.trans {a b c : T} (h : le3 a b) (k : le3 b c) : le3 a c := le3_iff.mpr (lx_trans (lx_trans Int.le_trans) (le3_iff.mp h) (le3_iff.mp k))
theorem lx_total {a b : Int} {P Q : Prop} (f : Q ∨ P) : (b < a ∨ (b = a ∧ Q)) ∨ (a < b ∨ (a = b ∧ P)) := by
 rcases Int.lt_trichotomy b a with h | h | h
 ·exact .inl (.inl h)
 ·exact f.elim (fun q => .inl (.inr ⟨h, q⟩)) fun p => .inr (.inr ⟨h.symm, p⟩)
 ·exact .inr (.inl h)
theorem le3.of_lt {a b : T} (h : lex3 a b = true) : le3 a b :=
 (lx_total (lx_total (Int.le_total b.2.2 a.2.2))).elim (fun q => by have q := le3_iff.mpr q; unfold le3 at q; rw [h] at q; cases q) le3_iff.mpr
theorem le3.first {a b : T} (h : le3 a b) : a.1 ≤ b.1 := by rw [le3_iff] at h; exact o247 h
theorem le3.rfl (a : T) : le3 a a := by rw [le3_iff]; exact o248
noncomputable abbrev ix (xs : List T) (i : Nat) : T := xs.getD i (0, 0, 0)
theorem ix_set (xs : List T) (p : Nat) (a : T) (i : Nat) (hp : p < xs.length) : ix (xs.set p a) i = if i = p then a else ix xs i := by
 unfold ix
 rw [List.getD_eq_getElem?_getD, List.getD_eq_getElem?_getD, List.getElem?_set]
 by_cases h : p = i
 ·subst h; simp [hp]
 ·rw [if_neg h, if_neg (fun q => h q.symm)]
theorem mem_ix {xs : List T} {e : T} : e ∈ xs ↔ ∃ i, i < xs.length ∧ ix xs i = e := by
 walk_at "xs,e|"
 rw [List.mem_iff_getElem]
 constructor
 ·rintro ⟨i, h, rfl⟩; exact ⟨i, h, by simp [ix, h]⟩
 ·rintro ⟨i, h, rfl⟩; exact ⟨i, h, by simp [ix, h]⟩
noncomputable def Heapy (xs : List T) : Prop := ∀ i, 0 < i → i < xs.length → le3 (ix xs ((i - 1) / 2)) (ix xs i)
structure Hole (xs : List T) (p : Nat) : Prop where
 lt : p < xs.length
 a : ∀ i, 0 < i → i < xs.length → i ≠ p → (i - 1) / 2 ≠ p → le3 (ix xs ((i - 1) / 2)) (ix xs i)
 c : 0 < p → ∀ i, 0 < i → i < xs.length → (i - 1) / 2 = p → le3 (ix xs ((p - 1) / 2)) (ix xs i)
set_option tactic.hygienic true in
theorem sd_heap (x : T) (xs : List T) (p : Nat) (h : Hole xs p) (hb : ∀ i, 0 < i → i < xs.length → (i - 1) / 2 = p → le3 x (ix xs i)) : Heapy (sd x xs p) := by
 have lt := h.lt
 induction xs, p using sd_ind x with
 | case1 xs e =>
  rw [e]
  intro i hi hl
  rw [List.length_set] at hl
  rw [ix_set _ _ _ _ lt, ix_set _ _ _ _ lt, if_neg (show i ≠ 0 by exact o64 hi)]
  split
  ·exact hb i hi hl (by assumption)
  ·exact h.a i hi hl (by exact o64 hi) (by assumption)
 | case2 xs p hp hlt e ih =>
  rw [e]
  have hq : (p - 1) / 2 < xs.length := by exact o10 lt
  refine ih ⟨by rw [List.length_set]; exact hq, fun i hi hl h1 h2 => ?_, fun h0 i hi hl h1 => ?_⟩ (fun i hi hl h1 => ?_) (by rw [List.length_set]; exact hq)
  ·rw [List.length_set] at hl
   rw [ix_set _ _ _ _ lt, ix_set _ _ _ _ lt, if_neg (show i ≠ p from fun q => h2 (by rw [q]))]
   split
   ·rename_i q; exact h.c (by exact o249 hp) i hi hl q
   ·rename_i q; exact h.a i hi hl (fun q => h2 (by rw [q])) q
  ·rw [List.length_set] at hl
   rw [ix_set _ _ _ _ lt, ix_set _ _ _ _ lt, if_neg (show ((p - 1) / 2 - 1) / 2 ≠ p by exact o65 hp)]
   have a1 := h.a ((p - 1) / 2) h0 hq (by exact o66 hp) (by exact o65 hp)
   split
   ·exact a1
   ·rename_i q
    have := h.a i hi hl q (by exact o67 hp h1)
    rw [h1] at this
    exact a1.trans this
  ·rw [List.length_set] at hl
   rw [ix_set _ _ _ _ lt]
   split
   ·exact le3.of_lt hlt
   ·rename_i q
    have := h.a i hi hl q (by exact o67 hp h1)
    rw [h1] at this
    exact (le3.of_lt hlt).trans this
 | case3 xs p hp hlt e =>
  rw [e]
  intro i hi hl
  rw [List.length_set] at hl
  rw [ix_set _ _ _ _ lt, ix_set _ _ _ _ lt]
  by_cases e : i = p
  ·rw [if_pos e, if_neg (by exact o250 hp e), e]; exact (Bool.not_eq_true _).mp hlt
  ·rw [if_neg e]
   split
   ·rename_i q; exact hb i hi hl q
   ·rename_i q; exact h.a i hi hl e q
theorem sd_mem (x : T) (xs : List T) (p : Nat) (lt : p < xs.length) (e : T) : e ∈ sd x xs p ↔ e = x ∨ ∃ i, i < xs.length ∧ i ≠ p ∧ ix xs i = e := by
 have key : ∀ (xs : List T) (p : Nat), p < xs.length → (e ∈ xs.set p x ↔ e = x ∨ ∃ i, i < xs.length ∧ i ≠ p ∧ ix xs i = e) := fun xs p lt => by
  rw [mem_ix, List.length_set]
  constructor
  ·rintro ⟨i, hi, h⟩
   rw [ix_set _ _ _ _ lt] at h
   by_cases q : i = p
   ·rw [if_pos q] at h; exact .inl h.symm
   ·rw [if_neg q] at h; exact .inr ⟨i, hi, q, h⟩
  ·rintro (rfl | ⟨i, hi, q, h⟩)
   ·exact ⟨p, lt, by rw [ix_set _ _ _ _ lt, if_pos rfl]⟩
   ·exact ⟨i, hi, by rw [ix_set _ _ _ _ lt, if_neg q]; exact h⟩
 induction xs, p using sd_ind x with
 | case1 xs q => rw [q]; exact key xs 0 lt
 | case2 xs p hp hlt q ih =>
  rw [q]
  have hq : (p - 1) / 2 < xs.length := by exact o10 lt
  refine (ih (by rw [List.length_set]; exact hq)).trans ?_
  rw [List.length_set]
  refine or_congr_right ⟨?_, ?_⟩
  ·rintro ⟨i, hi, h1, h2⟩
   rw [ix_set _ _ _ _ lt] at h2
   by_cases q : i = p
   ·rw [if_pos q] at h2; exact ⟨(p - 1) / 2, hq, by exact o66 hp, h2⟩
   ·rw [if_neg q] at h2; exact ⟨i, hi, q, h2⟩
  ·rintro ⟨i, hi, h1, h2⟩
   by_cases q : i = (p - 1) / 2
   ·exact ⟨p, lt, by exact o251 hp, by rw [ix_set _ _ _ _ lt, if_pos rfl, ← q]; exact h2⟩
   ·exact ⟨i, hi, q, by rw [ix_set _ _ _ _ lt, if_neg h1]; exact h2⟩
 | case3 xs p hp hlt q => rw [q]; exact key xs p lt
theorem hpush_heap {xs : List T} (h : Heapy xs) (x : T) : Heapy (hpush xs x) := by
 have hx : ∀ i, i < xs.length → ix (xs ++ [x]) i = ix xs i := fun i hi => by simp [ix, List.getD_eq_getElem?_getD, List.getElem?_append_left hi]
 refine sd_heap x _ _ ⟨by simp, fun i hi hl h1 h2 => ?_, fun h0 i hi hl h1 => ?_⟩ (fun i hi hl h1 => ?_)
 ·have : i < xs.length := by simp at hl; exact o68 h1 hl
  rw [hx _ (by exact o10 this), hx _ this]; exact h i hi this
 ·simp at hl; exact o252 h0 h1 hl
 ·simp at hl; exact o253 hi h1 hl
theorem hpush_mem {xs : List T} {x e : T} : e ∈ hpush xs x ↔ e = x ∨ e ∈ xs := by
 walk_at "xs,x,e|"
 unfold hpush
 rw [sd_mem _ _ _ (by simp), mem_ix]
 refine or_congr_right ⟨?_, ?_⟩
 ·rintro ⟨i, hi, h1, h2⟩
  have hl : i < xs.length := by simp at hi; exact o68 h1 hi
  refine ⟨i, hl, ?_⟩
  rw [← h2]; simp [ix, List.getD_eq_getElem?_getD, List.getElem?_append_left hl]
 ·rintro ⟨i, hi, h2⟩
  refine ⟨i, by simp; exact o254 hi, by exact o255 hi, ?_⟩
  rw [← h2]; simp [ix, List.getD_eq_getElem?_getD, List.getElem?_append_left hi]
theorem hpush_len (xs : List T) (x : T) : (hpush xs x).length = xs.length + 1 := by unfold hpush; rw [su_len_sd]; simp
set_option tactic.hygienic true in
theorem desc_hole (n : Nat) (xs : List T) (p : Nat) (hn : n = xs.length) (h : Hole xs p) : Hole (desc n xs p).1 (desc n xs p).2 ∧ n ≤ 2 * (desc n xs p).2 + 1 ∧ ∀ e, (∃ i, i < n ∧ i ≠ (desc n xs p).2 ∧ ix (desc n xs p).1 i = e) ↔ ∃ i, i < n ∧ i ≠ p ∧ ix xs i = e := by
 induction xs, p using desc_ind n with
 | case1 xs p hlt q ih =>
  rw [q]
  have lt := h.lt
  generalize hcc : low n xs p = c at *
  have hc : c < n ∧ (c - 1) / 2 = p ∧ 0 < c ∧ ∀ i, 0 < i → i < n → (i - 1) / 2 = p → le3 (ix xs c) (ix xs i) := by
   subst hcc
   unfold low
   split
   ·rename_i hh
    refine ⟨hh.1, by exact o256, by exact o257, fun i h1 h2 h3 => ?_⟩
    by_cases e : i = 2 * p + 2
    ·rw [e]; exact le3.rfl _
    ·rw [show i = 2 * p + 1 by exact o258 h1 h3 e]; exact hh.2
   ·rename_i hh
    refine ⟨hlt, by exact o259, by exact o260, fun i h1 h2 h3 => ?_⟩
    by_cases e : i = 2 * p + 1
    ·rw [e]; exact le3.rfl _
    ·obtain rfl : i = 2 * p + 2 := by exact o261 h1 h3 e
     refine le3.of_lt ?_
     cases q : lex3 (xs.getD (2 * p + 1) (0, 0, 0)) (xs.getD (2 * p + 2) (0, 0, 0)) with
     | true => rfl
     | false => exact (hh ⟨h2, q⟩).elim
  obtain ⟨c1, c2, c3, c4⟩ := hc
  clear hcc q
  have hole2 : Hole (xs.set p (ix xs c)) c := by
   refine ⟨by rw [List.length_set]; exact o69 hn c1, fun i hi hl h1 h2 => ?_, fun h0 i hi hl h1 => ?_⟩
   ·rw [List.length_set] at hl
    rw [ix_set _ _ _ _ lt, ix_set _ _ _ _ lt]
    by_cases e : i = p
    ·rw [if_pos e, if_neg (by exact o262 hi e), e]
     exact h.c (by exact o263 hi e) c c3 (by exact o69 hn c1) c2
    ·rw [if_neg e]
     split
     ·rename_i q; exact c4 i hi (by exact o7 hn hl) q
     ·rename_i q; exact h.a i hi hl e q
   ·rw [List.length_set] at hl
    rw [ix_set _ _ _ _ lt, ix_set _ _ _ _ lt, if_pos c2, if_neg (by exact o264 c2 c3 h1)]
    have := h.a i hi hl (by exact o265 c2 c3 h1) (by exact o266 c2 c3 h1)
    rwa [h1] at this
  obtain ⟨r1, r2, r3⟩ := ih (by simp [hn]) hole2
  refine ⟨r1, r2, fun e => ?_⟩
  rw [r3 e]
  constructor
  ·rintro ⟨i, hi, h1, h2⟩
   rw [ix_set _ _ _ _ lt] at h2
   by_cases q : i = p
   ·rw [if_pos q] at h2; exact ⟨c, c1, by exact o267 c2 c3, h2⟩
   ·rw [if_neg q] at h2; exact ⟨i, hi, q, h2⟩
  ·rintro ⟨i, hi, h1, h2⟩
   by_cases q : i = c
   ·exact ⟨p, by exact o27 hlt, by exact o268 c2 c3, by rw [ix_set _ _ _ _ lt, if_pos rfl, ← q]; exact h2⟩
   ·exact ⟨i, hi, q, by rw [ix_set _ _ _ _ lt, if_neg h1]; exact h2⟩
 | case2 xs p hlt q => rw [q]; exact ⟨h, by exact o269 hlt, fun e => Iff.rfl⟩
theorem Heapy.least {xs : List T} (h : Heapy xs) : ∀ i, i < xs.length → le3 (ix xs 0) (ix xs i) := by
 walk_at "xs|h"
 intro i
 induction i using Nat.strongRecOn with
 | ind i ih =>
  intro hi
  by_cases h0 : i = 0
  ·rw [h0]; exact le3.rfl _
  ·exact (ih ((i - 1) / 2) (by exact o16 h0) (by exact o10 hi)).trans (h i (by exact o21 h0) hi)
theorem hpop_heap {ys : List T} {x : T} (h : Heapy (ys ++ [x])) : Heapy (hpop ys x).2 ∧ (hpop ys x).2.length = ys.length ∧ (∀ e ∈ ys ++ [x], le3 (hpop ys x).1 e) ∧ (hpop ys x).1 ∈ ys ++ [x] ∧ (∀ e, e ∈ (hpop ys x).2 → e ∈ ys ++ [x]) ∧ ∀ e ∈ ys ++ [x], e = (hpop ys x).1 ∨ e ∈ (hpop ys x).2 := by
 walk_at "ys,x|h"
 cases ys with
 | nil => exact ⟨fun i _ hl => (nomatch hl), rfl, fun e he => by cases List.mem_singleton.mp he; exact le3.rfl _, by simp [hpop], fun e he => (nomatch he), fun e he => .inl (List.mem_singleton.mp he)⟩
 | cons y r =>
  walk_at "y,r|h"
  have hl0 : 0 < (x :: r).length := by simp
  have hx : ∀ i, 0 < i → i < (x :: r).length → ix (x :: r) i = ix (y :: r ++ [x]) i := fun i h0 hi => by
   walk_at "i|h0,hi"
   obtain ⟨j, rfl⟩ : ∃ j, i = j + 1 := ⟨i - 1, by exact o270 h0⟩
   have hj : j < r.length := by simpa using hi
   simp [ix, List.getD_eq_getElem?_getD, List.getElem?_append_left hj]
  have hole : Hole (x :: r) 0 := ⟨hl0, fun i hi hl h1 h2 => by
   walk_at "i|hi,hl,h1,h2"
   rw [hx i hi hl, hx _ (by exact o271 h2) (by exact o10 hl)]
   exact h i hi (by simp at hl ⊢; exact o272 hl), fun q => absurd q (by exact o273)⟩
  obtain ⟨d1, d2, d3⟩ := desc_hole (x :: r).length (x :: r) 0 rfl hole
  have hlen := desc_len (x :: r).length (x :: r) 0
  have hsu : (hpop (y :: r) x).2 = sd x ((desc (x :: r).length (x :: r) 0).1.set (desc (x :: r).length (x :: r) 0).2 x) (desc (x :: r).length (x :: r) 0).2 := rfl
  generalize desc (x :: r).length (x :: r) 0 = D at *
  have e0 : (x :: r).getD 0 (0, 0, 0) = x := rfl
  have hset : Hole (D.1.set D.2 x) D.2 := ⟨by rw [List.length_set]; exact d1.lt, fun i hi hl h1 h2 => by
   rw [List.length_set] at hl
   rw [ix_set _ _ _ _ d1.lt, ix_set _ _ _ _ d1.lt, if_neg h1, if_neg h2]; exact d1.a i hi hl h1 h2, fun h0 i hi hl h1 => by rw [List.length_set] at hl; exact o274 d2 hlen h0 hl h1⟩
  have hmem : ∀ e, e ∈ (hpop (y :: r) x).2 ↔ e = x ∨ e ∈ r := fun e => by
   walk_at "e|"
   rw [hsu, sd_mem _ _ _ (by rw [List.length_set]; exact d1.lt), List.length_set, hlen]
   have : (∃ i, i < (x :: r).length ∧ i ≠ D.2 ∧ ix (D.1.set D.2 x) i = e) ↔ ∃ i, i < (x :: r).length ∧ i ≠ D.2 ∧ ix D.1 i = e := by
    refine exists_congr fun i => and_congr_right fun _ => and_congr_right fun q => ?_
    rw [ix_set _ _ _ _ d1.lt, if_neg q]
   rw [this, d3 e]
   refine or_congr_right ⟨?_, ?_⟩
   ·rintro ⟨i, hi, h1, h2⟩
    obtain ⟨j, rfl⟩ : ∃ j, i = j + 1 := ⟨i - 1, by exact o275 h1⟩
    have hj : j < r.length := by simpa using hi
    rw [← h2]; simp [ix, List.getD_eq_getElem?_getD, hj]
   ·intro he
    obtain ⟨j, hj, q⟩ := List.getElem_of_mem he
    exact ⟨j + 1, by simpa using hj, by exact o276, by simp [ix, List.getD_eq_getElem?_getD, hj, q]⟩
  refine ⟨?_, ?_, ?_, by simp [hpop], ?_, ?_⟩
  ·rw [hsu]
   exact sd_heap _ _ _ hset (fun i hi hl h1 => by rw [List.length_set] at hl; exact o277 d2 hlen hi hl h1)
  ·rw [hsu, su_len_sd, List.length_set, hlen]; simp
  ·intro e he
   obtain ⟨i, hi, rfl⟩ := mem_ix.mp he
   exact h.least i hi
  ·intro e he
   rcases (hmem e).mp he with rfl | he
   ·simp
   ·simp [he]
  ·intro e he
   walk_at "e|he"
   rw [hmem e]
   simp only [List.cons_append, List.mem_cons, List.mem_append, List.not_mem_nil, or_false] at he
   rcases he with rfl | he | rfl
   ·exact .inl rfl
   ·exact .inr (.inr he)
   ·exact .inr (.inl rfl)
noncomputable def subst (a b : Nat) : Int := if a = b then 0 else if lowc a = lowc b then 1 else 2
theorem subst_body (p : DefParts) (hp : topDef 5 = some p) {fa : Addr} {n q : Str} {dv kv dc pm : Value} {an : Option Addr} {cd ct : Value} (L : Addr) (P : Prg s₀ mg mb)
  {a b : Nat} (ha : sign a) (hb : sign b) {Q : V → Hp → Prop} (h : Q (.int (subst a b)) H) :
  TS prog w s₀ A (callEnv (mkFd p n q dv kv dc pm an cd ct) L fa) p.body (fun f _ H1 => Q (retV f) H1) (Loc.ofArgs [(Str.ofString "ch_a", Mine.S [a]), (Str.ofString "ch_b", Mine.S [b])]) H := by
 walk_at "prog,w,s₀,H,A,mg,mb,p,fa,n,q,dv,kv,dc,pm,an,cd,ct,L,a,b,Q|hp,P,ha,hb,h"
 have hsa := ha
 have hsb := hb
 clear ha hb
 simp only [Loc.ofArgs, List.foldl]
 have e := def_eq hp rfl
 have hb := congrArg DefParts.body e
 have hs := congrArg DefParts.scope e
 dsimp only at hb hs
 rw [hb]
 generalize henv : callEnv (mkFd p n q dv kv dc pm an cd ct) L fa = env
 obtain ⟨hE, hsc⟩ := env_of henv hs rfl rfl rfl rfl
 have k0 := held_of "ch_a" hsc rfl
 have k1 := held_of "ch_b" hsc rfl
 have g0 := kind_g "_CASE_COST" hsc rfl
 have g1 := kind_g "_MOVE_COST" hsc rfl
 have hG := P.G
 obtain ⟨t0, v0⟩ := P.c_CASE_COST
 walk_at "t0|v0"
 obtain ⟨t1, v1⟩ := P.c_MOVE_COST
 walk_at "t1|v1"
 clear hsc henv hs hb e hp
 have ka : KeepOk prog w s₀ (.raw (.builtin "str.lower")) := keep_bi _
 unfold subst at h
 repeat' walk_at "go"
 refine Op2.eq_str ?_
 repeat' walk_at "go"
 by_cases hab : a = b
 ·rw [if_pos (by simp [hab])]
  rw [if_pos hab] at h
  repeat' walk_at "go"
  exact h
 ·rw [if_neg (by simp [hab])]
  rw [if_neg hab] at h
  repeat' walk_at "go"
  refine OpM.str F.slot_str_lower (by rfl) ?_
  repeat' walk_at "go"
  refine TC.lower hsa ?_
  repeat' walk_at "go"
  refine OpM.str F.slot_str_lower (by rfl) ?_
  repeat' walk_at "go"
  refine TC.lower hsb ?_
  repeat' walk_at "go"
  refine Op2.eq_str ?_
  repeat' walk_at "go"
  by_cases hl : lowc a = lowc b
  ·rw [if_pos (by simp [hl])]
   rw [if_pos hl] at h
   repeat' walk_at "go"
   exact h
  ·rw [if_neg (by simp [hl])]
   rw [if_neg hl] at h
   repeat' walk_at "go"
   exact h
theorem TCd.drop {f : V} {vs : List V} {Q : V → Hp → Prop} (h : TCd prog w s₀ A f vs (fun v H1 => ∃ H2, (∀ a o, H2 a = some o → H1 a = some o) ∧ Q v H2) H) : TCd prog w s₀ A f vs Q H := .mk fun B Z s x xs R hx hv =>
 codeAny_mono (h.run B Z s x xs R hx hv) fun r s' q => by
  cases r with
  | error e => exact q.elim
  | ok fl => cases fl with
   | ret y => obtain ⟨v, H1, Z1, l1, R1, v1, H2, hl, q⟩ := q; exact ⟨v, H2, Z1, l1, R1.less hl, v1, q⟩
   | _ => exact q.elim
/-! the distance -/
noncomputable def stripP : List Nat → List Nat → List Nat × List Nat
 | x :: a, y :: b => if x = y then stripP a b else (x :: a, y :: b)
 | a, b => (a, b)
noncomputable def inner (c : Nat) : List Nat → List Int → Int → Int → Int → List Int × Int × Int
 | x :: as, r :: rs, d, res, mn =>
  let res' := min (min res r + 2) (d + subst c x)
  let X := inner c as rs r res' (if res' < mn then res' else mn)
  (res' :: X.1, X.2)
 | _, _, _, res, mn => ([], res, mn)
noncomputable def outer (a : List Nat) (mx : Int) : List Nat → Nat → List Int → Int → Int
 | [], _, _, res => res
 | c :: bs, i, row, _ =>
  let X := inner c a row (i * 2) (i * 2) 9223372036854775807
  if X.2.2 > mx then mx + 1 else outer a mx bs (i + 1) X.1 X.2.1
noncomputable def lev (a b : List Nat) (mx : Int) : Int :=
 if a = b then 0 else
  let p := stripP a b
  let q := stripP p.1.reverse p.2.reverse
  let a := q.1.reverse
  let b := q.2.reverse
  if a = [] ∨ b = [] then 2 * ((a.length : Int) + b.length) else
   let (a, b) := if b.length < a.length then (b, a) else (a, b)
   if ((b.length : Int) - a.length) * 2 > mx then mx + 1 else outer a mx b 0 ((List.range a.length).map fun (i : Nat) => 2 + (i : Int) * 2) 0
theorem inner_len (c : Nat) (a : List Nat) (row : List Int) (d res mn : Int) (h : row.length = a.length) : (inner c a row d res mn).1.length = a.length := by
 induction a generalizing row d res mn with
 | nil => cases row <;> simp_all [inner]
 | cons x as ih =>
  cases row with
  | nil => simp at h
  | cons r rs => simp only [inner, List.length_cons]; rw [ih]; simpa using h
theorem seqIdxN {k n : Nat} (h : k < n) : seqIndex? (-(k : Int) - 1) n = some (n - 1 - k) := by
 unfold seqIndex?
 have h1 : (-(k : Int) - 1) < 0 := by exact o194
 simp only [h1, if_true]
 rw [if_pos (by simp; exact o195 h)]
 congr 1
 exact o196
theorem take_ne {x : List Nat} {k : Nat} (h : k < x.length) : (!(x.take (x.length - k)).isEmpty) = true := by
 cases e : x.take (x.length - k) with
 | nil =>
  have := congrArg List.length e
  rw [List.length_take] at this
  simp only [List.length_nil] at this
  exact o197 h this
 | cons c r => rfl
theorem TE.cut (hE : EnvOk env) {nm ps : Str} {x : List Nat} {k : Nat} {kk : Nat} {p1 p2 p3 p4 p5 p6 : Pos} (h1 : heldN env nm = true) (h2 : m nm = some (Mine.S x)) (h3 : heldN env ps = true) (h4 : m ps = some (.int (-(k : Int)))) (hk : k ≤ x.length) (hl : x.length ≤ sizeLine)
  {Q : V → Loc → Hp → Prop} (h : Q (Mine.S (x.take (x.length - k))) m H) : TE prog w s₀ A env (.Subscript (.Name nm p1) (.Slice none (some (.BoolOp .Or [.Name ps p2, .Constant .none kk p3] p4)) none p5) p6) Q m H := by
 walk_at "prog,w,s₀,H,env,m,A,nm,ps,x,k,kk,p1,p2,p3,p4,p5,p6,Q|hE,h1,h2,h3,h4,hk,hl,h"
 refine TE.sub (TE.name hE h1 h2 (TE.slice (TPart.none (TPart.some (TE.or2 (TE.name hE h3 h4 (OpB.int ?_)))))))
 by_cases hk0 : k = 0
 ·subst hk0
  rw [if_neg (by simp)]
  refine TE.const_none (.inl ⟨rfl, TPart.none (Op2.tail_str (fun _ _ => ⟨_, rfl⟩) (Op2.str_all hl ?_))⟩)
  simpa using h
 ·rw [if_pos (by simp; exact o198 hk0)]
  exact .inr ⟨_, rfl, TPart.none (Op2.tail_str (fun _ _ => ⟨_, rfl⟩) (Op2.str_but (by exact o21 hk0) hk hl h))⟩
theorem stripP_step {a b : List Nat} {k c : Nat} (ha : a[k]? = some c) (hb : b[k]? = some c) : stripP (a.drop k) (b.drop k) = stripP (a.drop (k + 1)) (b.drop (k + 1)) := by
 obtain ⟨h1, e1⟩ := List.getElem?_eq_some_iff.mp ha
 obtain ⟨h2, e2⟩ := List.getElem?_eq_some_iff.mp hb
 rw [List.drop_eq_getElem_cons h1, List.drop_eq_getElem_cons h2, e1, e2]
 simp [stripP]
theorem stripP_stop {a b : List Nat} {k : Nat} (h : a.length ≤ k ∨ b.length ≤ k ∨ a[k]? ≠ b[k]?) : stripP (a.drop k) (b.drop k) = (a.drop k, b.drop k) := by
 walk_at "a,b,k|h"
 by_cases h1 : k < a.length
 ·by_cases h2 : k < b.length
  ·rw [List.drop_eq_getElem_cons h1, List.drop_eq_getElem_cons h2]
   unfold stripP
   rw [if_neg]
   intro e
   rcases h with h | h | h
   ·exact o199 h1 h
   ·omega
   ·exact h (by rw [List.getElem?_eq_getElem h1, List.getElem?_eq_getElem h2, e])
  ·rw [List.drop_eq_nil_of_le (as := b) (by exact o5 h2)]
   unfold stripP; split <;> simp_all
 ·rw [List.drop_eq_nil_of_le (as := a) (by exact o5 h1)]
  unfold stripP; rfl
theorem tc_subst {n : Nat} (P : Prg s₀ mg mb) (r : Room A (n + 1)) {a b : Nat} (ha : sign a) (hb : sign b) {Q : V → Hp → Prop} (h : Q (.int (subst a b)) H) : TC prog w s₀ A (.raw (.ref 28)) [Mine.S [a], Mine.S [b]] Q H := by
 obtain ⟨p, hp, hat⟩ := P.d5
 have e := def_eq hp rfl
 have hpar := congrArg DefParts.params e
 have hs := congrArg DefParts.scope e
 dsimp only at hs hpar
 refine TC.at (names := [Str.ofString "ch_a", Str.ofString "ch_b"]) hat r.lt (by rw [hs]; rfl) rfl (fun n q kv dc pm an cd ct xs hx => ?_) (by rw [hs]; rfl) (fun n q kv dc pm an cd ct L => ?_)
 ·obtain ⟨x, y, rfl⟩ := Mine.len2 hx; unfold mkFd; rw [hpar]; rfl
 ·exact subst_body p hp L P ha hb h
noncomputable def wordOk (a : List Nat) : Prop := a.length ≤ 3 ∧ ∀ c ∈ a, sign c
theorem range_small2 {n : Nat} (h : n ≤ 3) : Builtin.Range.small 2 (2 * ((n : Int) + 1)) 2 = true := by
 match n, h with
 | 0, _ => rfl
 | 1, _ => rfl
 | 2, _ => rfl
 | 3, _ => rfl
theorem range_size2 (n : Nat) : Builtin.Range.rangeSize 2 (2 * ((n : Int) + 1)) 2 = n := by
 unfold Builtin.Range.rangeSize
 rw [if_pos (by decide)]
 split <;> omega
theorem lev_body (p : DefParts) (hp : topDef 6 = some p) {fa : Addr} {n q : Str} {dv kv dc pm : Value} {an : Option Addr} {cd ct : Value} (L : Addr) (P : Prg s₀ mg mb) {rn : Nat} (r : Room A (rn + 1))
  {a b : List Nat} {mx : Int} (ha : wordOk a) (hb : wordOk b) {Q : V → Hp → Prop} (h : Q (.int (lev a b mx)) H) :
  TS prog w s₀ A (callEnv (mkFd p n q dv kv dc pm an cd ct) L fa) p.body (fun f _ H1 => ∃ H2, (∀ a o, H2 a = some o → H1 a = some o) ∧ Q (retV f) H2) (Loc.ofArgs [(Str.ofString "a", Mine.S a), (Str.ofString "b", Mine.S b), (Str.ofString "max_cost", V.int mx)]) H := by
 walk_at "prog,w,s₀,H,A,mg,mb,p,fa,n,q,dv,kv,dc,pm,an,cd,ct,L,rn,a,b,mx,Q|hp,P,r,ha,hb,h"
 simp only [Loc.ofArgs, List.foldl]
 have e := def_eq hp rfl
 have hb := congrArg DefParts.body e
 have hs := congrArg DefParts.scope e
 dsimp only at hb hs
 rw [hb]
 generalize henv : callEnv (mkFd p n q dv kv dc pm an cd ct) L fa = env
 obtain ⟨hE, hsc⟩ := env_of henv hs rfl rfl rfl rfl
 have k0 := held_of "a" hsc rfl
 have k1 := held_of "b" hsc rfl
 have k2 := held_of "max_cost" hsc rfl
 have k3 := held_of "pre" hsc rfl
 have k4 := held_of "post" hsc rfl
 have k5 := held_of "row" hsc rfl
 have k6 := held_of "result" hsc rfl
 have k7 := held_of "bindex" hsc rfl
 have k8 := held_of "bchar" hsc rfl
 have k9 := held_of "distance" hsc rfl
 have k10 := held_of "minimum" hsc rfl
 have k11 := held_of "index" hsc rfl
 have k12 := held_of "substitute" hsc rfl
 have k13 := held_of "insert_delete" hsc rfl
 have s0 := stored_of "a" hsc rfl
 have s1 := stored_of "b" hsc rfl
 have s2 := stored_of "pre" hsc rfl
 have s3 := stored_of "post" hsc rfl
 have s4 := stored_of "row" hsc rfl
 have s5 := stored_of "result" hsc rfl
 have s6 := stored_of "bindex" hsc rfl
 have s7 := stored_of "bchar" hsc rfl
 have s8 := stored_of "distance" hsc rfl
 have s9 := stored_of "minimum" hsc rfl
 have s10 := stored_of "index" hsc rfl
 have s11 := stored_of "substitute" hsc rfl
 have s12 := stored_of "insert_delete" hsc rfl
 have g0 := kind_g "_MOVE_COST" hsc rfl
 have g1 := kind_g "len" hsc rfl
 have g2 := kind_g "_MAX_STRING_SIZE" hsc rfl
 have g3 := kind_g "list" hsc rfl
 have g4 := kind_g "range" hsc rfl
 have g5 := kind_g "_substitution_cost" hsc rfl
 have g6 := kind_g "min" hsc rfl
 have l0 : env.kindOf (Str.ofString "a") = some .local := Mine.kind_of hsc rfl
 have l1 : env.kindOf (Str.ofString "b") = some .local := Mine.kind_of hsc rfl
 have hG := P.G
 obtain ⟨t0, v0⟩ := P.c_MOVE_COST
 walk_at "t0|v0"
 have v1 := P.nlen
 have b1 := boot_len
 have q1 : KeepOk prog w s₀ (.raw (.builtin "len")) := keep_bi _
 obtain ⟨t2, v2⟩ := P.c_MAX_STRING_SIZE
 walk_at "t2|v2"
 have v3 := P.nlist
 have b3 := boot_list
 have q3 : KeepOk prog w s₀ (.raw (.type "list")) := keep_ty _
 have v4 := P.nrange
 have b4 := boot_range
 have q4 : KeepOk prog w s₀ (.raw (.type "range")) := keep_ty _
 have v5 := P.f5
 have q5 : KeepOk prog w s₀ (.raw _) := (by obtain ⟨p, _, h⟩ := P.d5; exact keep_at h)
 have v6 := P.nmin
 have b6 := boot_min
 have q6 : KeepOk prog w s₀ (.raw (.builtin "min")) := keep_bi _
 clear hsc henv hs hb e hp
 unfold lev at h
 repeat' walk_at "go"
 refine Op2.eq_str ?_
 repeat' walk_at "go"
 by_cases hab : a = b
 ·rw [if_pos (by simp [hab])]
  rw [if_pos hab] at h
  repeat' walk_at "go"
  exact ⟨H, fun _ _ e => e, h⟩
 rw [if_neg (by simp [hab])]
 rw [if_neg hab] at h
 repeat' walk_at "go"
 have hla : a.length ≤ sizeLine := by have := ha.1; rw [sizeLine_eq]; exact o19 this
 have hlb : b.length ≤ sizeLine := by have := hb.1; rw [sizeLine_eq]; exact o19 this
 have la3 := ha.1
 have lb3 := hb.1
 refine T1.mono (Q := fun f m' H' => f = Fl.next ∧ H = H' ∧ ∃ k, k ≤ a.length ∧ k ≤ b.length ∧ stripP a b = (a.drop k, b.drop k) ∧
  Has m' [(Str.ofString "a", Mine.S a), (Str.ofString "b", Mine.S b), (Str.ofString "max_cost", V.int mx), (Str.ofString "pre", V.int (k : Int))]) ?_ ?_
 ·refine T1.whiles (I := fun n m' H' => H = H' ∧ ∃ k, n = a.length - k ∧ k ≤ a.length ∧ k ≤ b.length ∧ stripP (a.drop k) (b.drop k) = stripP a b ∧
   Has m' [(Str.ofString "a", Mine.S a), (Str.ofString "b", Mine.S b), (Str.ofString "max_cost", V.int mx), (Str.ofString "pre", V.int (k : Int))]) ?_ a.length ⟨rfl, 0, by simp, by simp, by simp, rfl, by walk_at "has"⟩
  rintro n m' _ ⟨rfl, k, rfl, hka, hkb, hst, hm⟩
  walk_at "n,m',k|hka,hkb,hst,hm"
  refine TB.has hm ?_
  simp only [Loc.ofArgs, List.foldl]
  repeat' walk_at "go"
  refine Op2.tail_str (fun _ _ => ⟨_, rfl⟩) (Op2.str_from hka hla ?_)
  repeat' walk_at "go"
  refine OpB.str ?_ (by simp; omega)
  by_cases h1 : k < a.length
  ·rw [if_pos (by simp; exact o31 h1)]
   repeat' walk_at "go"
   refine Op2.tail_str (fun _ _ => ⟨_, rfl⟩) (Op2.str_from hkb hlb ?_)
   repeat' walk_at "go"
   refine OpB.str ?_ (by simp; omega)
   by_cases h2 : k < b.length
   ·rw [if_pos (by simp; exact o31 h2)]
    repeat' walk_at "go"
    obtain ⟨ak, ea⟩ : ∃ x, a[k]? = some x := ⟨_, List.getElem?_eq_getElem h1⟩
    walk_at "ak|ea"
    obtain ⟨bk, eb⟩ : ∃ x, b[k]? = some x := ⟨_, List.getElem?_eq_getElem h2⟩
    walk_at "bk|eb"
    refine Op2.tail_str (fun _ _ => ⟨_, rfl⟩) (Op2.str_at (c := ak) (by exact o15) (by omega) (by rw [seqIdx h1]; exact ea) ?_)
    repeat' walk_at "go"
    refine Op2.tail_str (fun _ _ => ⟨_, rfl⟩) (Op2.str_at (c := bk) (by exact o15) (by omega) (by rw [seqIdx h2]; exact eb) ?_)
    repeat' walk_at "go"
    refine Op2.eq_str ?_
    repeat' walk_at "go"
    by_cases hc : ak = bk
    ·rw [if_pos (by simp [hc])]
     repeat' walk_at "go"
     refine ⟨a.length - (k + 1), by exact o12 h1, rfl, k + 1, rfl, h1, h2, ?_, ?_⟩
     ·rw [← hst]; exact (stripP_step ea (by rw [eb, hc])).symm
     ·walk_at "has"
    ·rw [if_neg (by simp [hc])]
     repeat' walk_at "go"
     refine ⟨rfl, rfl, k, hka, hkb, ?_, by walk_at "has"⟩
     rw [← hst]; exact stripP_stop (.inr (.inr (by rw [ea, eb]; exact fun q => hc (Option.some.inj q))))
   ·rw [if_neg (by simp; exact o5 h2)]
    repeat' walk_at "go"
    refine ⟨rfl, rfl, k, hka, hkb, ?_, by walk_at "has"⟩
    rw [← hst]; exact stripP_stop (.inr (.inl (by exact o5 h2)))
  ·rw [if_neg (by simp; exact o5 h1)]
   repeat' walk_at "go"
   refine ⟨rfl, rfl, k, hka, hkb, ?_, by walk_at "has"⟩
   rw [← hst]; exact stripP_stop (.inl (by exact o5 h1))
 rintro _ m' _ ⟨rfl, rfl, k, hka, hkb, hst, hm⟩
 walk_at "m',k|hka,hkb,hst,hm"
 rw [hst] at h
 dsimp only at h
 show TS prog w s₀ A env _ _ m' H
 refine TS.has hm ?_
 simp only [Loc.ofArgs, List.foldl]
 repeat' walk_at "go"
 refine Op2.tail_str (fun _ _ => ⟨_, rfl⟩) (Op2.str_from hka hla ?_)
 repeat' walk_at "go"
 refine Op2.tail_str (fun _ _ => ⟨_, rfl⟩) (Op2.str_from hkb hlb ?_)
 have ha1 : wordOk (a.drop k) := ⟨by simp; exact o20 la3, fun c hc => ha.2 c (List.mem_of_mem_drop hc)⟩
 have hb1 : wordOk (b.drop k) := ⟨by simp; exact o20 lb3, fun c hc => hb.2 c (List.mem_of_mem_drop hc)⟩
 generalize a.drop k = a1 at *
 generalize b.drop k = b1 at *
 clear hm hst hla hlb la3 lb3 hka hkb hab ha hb
 have hla : a1.length ≤ sizeLine := by have := ha1.1; rw [sizeLine_eq]; exact o19 this
 have hlb : b1.length ≤ sizeLine := by have := hb1.1; rw [sizeLine_eq]; exact o19 this
 have la3 := ha1.1
 have lb3 := hb1.1
 repeat' walk_at "go"
 refine T1.mono (Q := fun f m' H' => f = Fl.next ∧ H = H' ∧ ∃ k, k ≤ a1.length ∧ k ≤ b1.length ∧ stripP a1.reverse b1.reverse = (a1.reverse.drop k, b1.reverse.drop k) ∧
  Has m' [(Str.ofString "a", Mine.S a1), (Str.ofString "b", Mine.S b1), (Str.ofString "max_cost", V.int mx), (Str.ofString "post", V.int (-(k : Int)))]) ?_ ?_
 ·refine T1.whiles (I := fun n m' H' => H = H' ∧ ∃ k, n = a1.length - k ∧ k ≤ a1.length ∧ k ≤ b1.length ∧ stripP (a1.reverse.drop k) (b1.reverse.drop k) = stripP a1.reverse b1.reverse ∧
   Has m' [(Str.ofString "a", Mine.S a1), (Str.ofString "b", Mine.S b1), (Str.ofString "max_cost", V.int mx), (Str.ofString "post", V.int (-(k : Int)))]) ?_ a1.length ⟨rfl, 0, by simp, by simp, by simp, rfl, by walk_at "has"⟩
  rintro n m' _ ⟨rfl, k, rfl, hka, hkb, hst, hm⟩
  walk_at "n,m',k|hka,hkb,hst,hm"
  refine TB.has hm ?_
  simp only [Loc.ofArgs, List.foldl]
  refine TB.bool (TAll.and_cons (TB.val (TE.cut hE k0 (by walk_at "look") k4 (by walk_at "look") hka hla (OpB.str ?_ (by simp; omega)))))
  by_cases h1 : k < a1.length
  ·rw [if_pos (take_ne h1)]
   refine TAll.and_cons (TB.val (TE.cut hE k1 (by walk_at "look") k4 (by walk_at "look") hkb hlb (OpB.str ?_ (by simp; omega))))
   by_cases h2 : k < b1.length
   ·rw [if_pos (take_ne h2)]
    repeat' walk_at "go"
    obtain ⟨ak, ea⟩ : ∃ x, a1[a1.length - 1 - k]? = some x := ⟨_, List.getElem?_eq_getElem (by exact o55 h1)⟩
    walk_at "ak|ea"
    obtain ⟨bk, eb⟩ : ∃ x, b1[b1.length - 1 - k]? = some x := ⟨_, List.getElem?_eq_getElem (by exact o55 h2)⟩
    walk_at "bk|eb"
    refine Op2.tail_str (fun _ _ => ⟨_, rfl⟩) (Op2.str_at (c := ak) (by omega) (by exact o56) (by rw [seqIdxN h1]; exact ea) ?_)
    repeat' walk_at "go"
    refine Op2.tail_str (fun _ _ => ⟨_, rfl⟩) (Op2.str_at (c := bk) (by omega) (by exact o56) (by rw [seqIdxN h2]; exact eb) ?_)
    repeat' walk_at "go"
    refine Op2.eq_str ?_
    repeat' walk_at "go"
    rw [← List.getElem?_reverse h1] at ea
    rw [← List.getElem?_reverse h2] at eb
    by_cases hc : ak = bk
    ·rw [if_pos (by simp [hc])]
     repeat' walk_at "go"
     refine ⟨a1.length - (k + 1), by exact o12 h1, rfl, k + 1, rfl, h1, h2, ?_, ?_⟩
     ·rw [← hst]; exact (stripP_step ea (by rw [eb, hc])).symm
     ·rw [show (-((k + 1 : Nat) : Int)) = -(k : Int) - 1 from by exact o201]
      walk_at "has"
    ·rw [if_neg (by simp [hc])]
     repeat' walk_at "go"
     refine ⟨rfl, rfl, k, hka, hkb, ?_, by walk_at "has"⟩
     rw [← hst]; exact stripP_stop (.inr (.inr (by rw [ea, eb]; exact fun q => hc (Option.some.inj q))))
   ·rw [if_neg (by simp; omega)]
    repeat' walk_at "go"
    refine ⟨rfl, rfl, k, hka, hkb, ?_, by walk_at "has"⟩
    rw [← hst]; exact stripP_stop (.inr (.inl (by simp; exact o5 h2)))
  ·rw [if_neg (by simp; omega)]
   repeat' walk_at "go"
   refine ⟨rfl, rfl, k, hka, hkb, ?_, by walk_at "has"⟩
   rw [← hst]; exact stripP_stop (.inl (by simp; exact o5 h1))
 rintro _ m' _ ⟨rfl, rfl, k, hka, hkb, hst, hm⟩
 walk_at "m',k|hka,hkb,hst,hm"
 rw [hst] at h
 dsimp only at h
 rw [List.drop_reverse, List.drop_reverse, List.reverse_reverse, List.reverse_reverse] at h
 show TS prog w s₀ A env _ _ m' H
 refine TS.has hm ?_
 simp only [Loc.ofArgs, List.foldl]
 refine TS.cons (T1.assign_name hE s0 (TE.cut hE k0 (by walk_at "look") k4 (by walk_at "look") hka hla ?_))
 dsimp only [seqQ]
 refine TS.cons (T1.assign_name hE s1 (TE.cut hE k1 (by walk_at "look") k4 (by walk_at "look") hkb hlb ?_))
 repeat' walk_at "go"
 have ha2 : wordOk (a1.take (a1.length - k)) := ⟨by simp; exact o20 la3, fun c hc => ha1.2 c (List.mem_of_mem_take hc)⟩
 have hb2 : wordOk (b1.take (b1.length - k)) := ⟨by simp; exact o20 lb3, fun c hc => hb1.2 c (List.mem_of_mem_take hc)⟩
 generalize a1.take (a1.length - k) = a2 at *
 generalize b1.take (b1.length - k) = b2 at *
 clear hm hst hla hlb la3 lb3 hka hkb ha1 hb1
 have la3 := ha2.1
 have lb3 := hb2.1
 refine OpB.str ?_ (by exact o2 la3)
 by_cases hn1 : a2 = []
 ·rw [if_pos (Or.inl hn1)] at h
  rw [if_pos (by simp [hn1])]
  repeat' walk_at "go"
  refine TC.len_str ?_ (by exact o2 la3)
  repeat' walk_at "go"
  refine TC.len_str ?_ (by exact o2 lb3)
  repeat' walk_at "go"
  exact ⟨H, fun _ _ e => e, h⟩
 rw [if_neg (by simp [hn1])]
 repeat' walk_at "go"
 refine OpB.str ?_ (by exact o2 lb3)
 by_cases hn2 : b2 = []
 ·rw [if_pos (Or.inr hn2)] at h
  rw [if_pos (by simp [hn2])]
  repeat' walk_at "go"
  refine TC.len_str ?_ (by exact o2 la3)
  repeat' walk_at "go"
  refine TC.len_str ?_ (by exact o2 lb3)
  repeat' walk_at "go"
  exact ⟨H, fun _ _ e => e, h⟩
 rw [if_neg (by simp [hn1, hn2])] at h
 rw [if_neg (by simp [hn2])]
 repeat' walk_at "go"
 refine TC.len_str ?_ (by exact o2 la3)
 repeat' walk_at "go"
 rw [if_neg (by simp; exact o57 la3)]
 repeat' walk_at "go"
 refine TC.len_str ?_ (by exact o2 lb3)
 repeat' walk_at "go"
 rw [if_neg (by simp; exact o57 lb3)]
 refine TAll.or_nil (iteF (TS.nil ?_))
 dsimp only [seqQ]
 refine TS.cons (T1.mono (Q := fun f m' H' => f = Fl.next ∧ H = H' ∧ ∃ a3 b3, (if b2.length < a2.length then (b2, a2) else (a2, b2)) = (a3, b3) ∧
  Has m' [(Str.ofString "a", Mine.S a3), (Str.ofString "b", Mine.S b3), (Str.ofString "max_cost", V.int mx)]) ?_ ?_)
 ·repeat' walk_at "go"
  refine TC.len_str ?_ (by exact o2 lb3)
  repeat' walk_at "go"
  refine TC.len_str ?_ (by exact o2 la3)
  repeat' walk_at "go"
  by_cases hsw : b2.length < a2.length
  ·rw [if_pos (by simp; exact o31 hsw)]
   refine TS.cons (T1.assign_swap (x := Str.ofString "a") (y := Str.ofString "b") hE r.h s0 s1 ?_ ?_)
   ·repeat' walk_at "go"
    refine ⟨by simp [sizeLine_eq], _, _, rfl, ?_⟩
    refine TS.nil ⟨rfl, rfl, b2, a2, by rw [if_pos hsw], ?_⟩
    walk_at "has"
   ·have hbk : env.blockKind = .function := by unfold Env.blockKind; rw [hE.kind]; rfl
    unfold swappedStores
    simp only [hbk, List.filterMap, l0, l1]
    rfl
  ·rw [if_neg (by simp; exact o5 hsw)]
   refine TS.nil ⟨rfl, rfl, a2, b2, by rw [if_neg hsw], ?_⟩
   walk_at "has"
 rintro _ m' _ ⟨rfl, rfl, a3, b3, hsw, hm⟩
 walk_at "m',a3,b3|hsw,hm"
 have ha3 : wordOk a3 ∧ wordOk b3 := by
  split at hsw <;> cases hsw
  ·exact ⟨hb2, ha2⟩
  ·exact ⟨ha2, hb2⟩
 rw [hsw] at h
 dsimp only at h
 obtain ⟨ha3, hb3⟩ := ha3
 clear hsw ha2 hb2 hn1 hn2 la3 lb3
 have la3 := ha3.1
 have lb3 := hb3.1
 show TS prog w s₀ A env _ _ m' H
 refine TS.has hm ?_
 simp only [Loc.ofArgs, List.foldl]
 repeat' walk_at "go"
 refine TC.len_str ?_ (by exact o2 lb3)
 repeat' walk_at "go"
 refine TC.len_str ?_ (by exact o2 la3)
 repeat' walk_at "go"
 by_cases hgap : ((b3.length : Int) - a3.length) * 2 > mx
 ·rw [if_pos hgap] at h
  rw [if_pos (by simp; exact o202 hgap)]
  repeat' walk_at "go"
  exact ⟨H, fun _ _ e => e, h⟩
 rw [if_neg hgap] at h
 rw [if_neg (by simp; exact o203 hgap)]
 repeat' walk_at "go"
 refine TC.len_str ?_ (by exact o2 la3)
 repeat' walk_at "go"
 refine TC.range3 (by exact o204) (by decide) ?_
 repeat' walk_at "go"
 refine TC.list_range r.h (n := a3.length) ?_ ?_ (by exact o205 la3) (fun d hd => ?_)
 ·exact range_small2 la3
 ·exact range_size2 _
 walk_at "d|hd"
 repeat' walk_at "go"
 have hmono : ∀ row, ∀ a o, H a = some o → (H.put d (.list (intsV row))) a = some o := fun row a o e => by
  unfold Hp.put; rw [if_neg (fun q : a = d => by rw [q, hd] at e; cases e)]; exact e
 generalize hr0 : ((List.range a3.length).map fun (i : Nat) => (2 : Int) + (i : Int) * 2) = row0 at *
 refine T1.fors ?_
 repeat' walk_at "go"
 refine TC.len_str ?_ (by exact o2 lb3)
 repeat' walk_at "go"
 refine TC.range1 ?_
 refine ⟨_, OpIt.rng r.h ?_, fun i m' H' => ∃ row res, H' = H.put d (.list (intsV row)) ∧ row.length = a3.length ∧ outer a3 mx (b3.drop i) i row res = outer a3 mx b3 0 row0 0 ∧
  Has m' [(Str.ofString "a", Mine.S a3), (Str.ofString "b", Mine.S b3), (Str.ofString "max_cost", V.int mx), (Str.ofString "row", V.ref d), (Str.ofString "result", V.int res)], ?_, ?_, ?_⟩
 ·exact rng_small _ (by exact o58 lb3)
 ·exact ⟨row0, 0, rfl, by rw [← hr0]; simp, rfl, by walk_at "has"⟩
 ·rintro i x m' _ hx ⟨row, res, rfl, hlen, ho, hm⟩
  walk_at "i,x,m',row,res|hx,hlen,ho,hm"
  obtain ⟨hi, rfl⟩ := rng_get hx
  refine TA.has hm ?_
  simp only [Loc.ofArgs, List.foldl]
  refine TA.name hE s6 ?_
  repeat' walk_at "go"
  have hcs : sign b3[i] := hb3.2 _ (List.getElem_mem hi)
  obtain ⟨bc, hbc'⟩ : ∃ x, b3[i]? = some x := ⟨_, List.getElem?_eq_getElem hi⟩
  walk_at "bc|hbc'"
  have hbc : b3[i] = bc := Option.some.inj ((List.getElem?_eq_getElem hi).symm.trans hbc')
  rw [hbc] at hcs
  refine Op2.tail_str (fun _ _ => ⟨_, rfl⟩) (Op2.str_at (c := bc) (by exact o15) (by omega) (by rw [seqIdx hi]; simp [hi, hbc]) ?_)
  repeat' walk_at "go"
  refine T1.assign_two ?_
  repeat' walk_at "go"
  refine TA.name hE s8 (TA.name hE s5 ?_)
  repeat' walk_at "go"
  refine T1.mono (Q := fun f m' H' => f = .next ∧ ∃ row' res' mn', inner bc a3 row ((i : Int) * 2) ((i : Int) * 2) 9223372036854775807 = (row', res', mn') ∧ H' = H.put d (.list (intsV row')) ∧
   Has m' [(Str.ofString "a", Mine.S a3), (Str.ofString "b", Mine.S b3), (Str.ofString "max_cost", V.int mx), (Str.ofString "row", V.ref d), (Str.ofString "result", V.int res'), (Str.ofString "minimum", V.int mn')]) ?_ ?_
  ·refine T1.fors ?_
   repeat' walk_at "go"
   refine TC.len_str ?_ (by exact o2 la3)
   repeat' walk_at "go"
   refine TC.range1 ?_
   refine ⟨_, OpIt.rng r.h (rng_small _ (by exact o58 la3)), fun j m' H' => ∃ W dd rr mn, H' = H.put d (.list (intsV (W ++ row.drop j))) ∧ W.length = j ∧ (W ++ (inner bc (a3.drop j) (row.drop j) dd rr mn).1, (inner bc (a3.drop j) (row.drop j) dd rr mn).2) = inner bc a3 row ((i : Int) * 2) ((i : Int) * 2) 9223372036854775807 ∧
    Has m' [(Str.ofString "a", Mine.S a3), (Str.ofString "b", Mine.S b3), (Str.ofString "max_cost", V.int mx), (Str.ofString "row", V.ref d), (Str.ofString "bchar", Mine.S [bc]), (Str.ofString "distance", V.int dd), (Str.ofString "result", V.int rr), (Str.ofString "minimum", V.int mn)], ?_, ?_, ?_⟩
   ·exact ⟨[], _, _, _, rfl, rfl, rfl, by walk_at "has"⟩
   ·rintro j x m' _ hx ⟨W, dd, rr, mn, rfl, hW, hin, hm⟩
    walk_at "j,x,m',W,dd,rr,mn|hx,hW,hin,hm"
    obtain ⟨hj, rfl⟩ := rng_get hx
    have hjr : j < row.length := by exact o7 hlen hj
    have hax : sign a3[j] := ha3.2 _ (List.getElem_mem hj)
    obtain ⟨ac, hac'⟩ : ∃ x, a3[j]? = some x := ⟨_, List.getElem?_eq_getElem hj⟩
    walk_at "ac|hac'"
    have hac : a3[j] = ac := Option.some.inj ((List.getElem?_eq_getElem hj).symm.trans hac')
    rw [hac] at hax
    obtain ⟨rc, hrc'⟩ : ∃ x, row[j]? = some x := ⟨_, List.getElem?_eq_getElem hjr⟩
    walk_at "rc|hrc'"
    have hrc : row[j] = rc := Option.some.inj ((List.getElem?_eq_getElem hjr).symm.trans hrc')
    rw [List.drop_eq_getElem_cons hj, List.drop_eq_getElem_cons hjr, hac, hrc] at hin
    rw [List.drop_eq_getElem_cons hjr, hrc]
    have hlr : (intsV (W ++ rc :: row.drop (j + 1))).length = row.length := by simp [intsV]; omega
    refine TA.has hm ?_
    simp only [Loc.ofArgs, List.foldl]
    refine TA.name hE s10 ?_
    repeat' walk_at "go"
    refine Op2.tail_str (fun _ _ => ⟨_, rfl⟩) (Op2.str_at (c := ac) (by exact o15) (by omega) (by rw [seqIdx hj]; simp [hj, hac]) ?_)
    repeat' walk_at "go"
    refine tc_subst P r hcs hax ?_
    have hd' : (H.put d (.list (intsV (W ++ rc :: row.drop (j + 1))))) d = some (.list (intsV (W ++ rc :: row.drop (j + 1)))) := by simp [Hp.put]
    repeat' walk_at "go"
    refine Op2.tail_list (fun _ _ => ⟨_, rfl⟩) hd' (Op2.item_list (v := .int rc) hd' (by exact o1) (by omega) (by simp [intsV, ← hW]) ?_)
    repeat' walk_at "go"
    refine TC.min2 r.h ?_
    repeat' walk_at "go"
    refine TC.min2 r.h ?_
    repeat' walk_at "go"
    refine OpU.setItem_list hd' (by exact o1) (by omega) (by rw [hlr]; omega) ?_
    rw [Hp.put_put]
    rw [show ((intsV (W ++ rc :: row.drop (j + 1))).set ((j : Int)).toNat (V.int (min (min rr rc + 2) (dd + subst bc ac)))) = intsV ((W ++ [min (min rr rc + 2) (dd + subst bc ac)]) ++ row.drop (j + 1)) from by simp [intsV, ← hW]]
    simp only [inner] at hin
    generalize min (min rr rc + 2) (dd + subst bc ac) = nr at *
    have hin' : ((W ++ [nr]) ++ (inner bc (a3.drop (j + 1)) (row.drop (j + 1)) rc nr (if nr < mn then nr else mn)).1, (inner bc (a3.drop (j + 1)) (row.drop (j + 1)) rc nr (if nr < mn then nr else mn)).2) = inner bc a3 row ((i : Int) * 2) ((i : Int) * 2) 9223372036854775807 := by
     rw [← hin, List.append_assoc]; rfl
    repeat' walk_at "go"
    by_cases hmn : nr < mn
    ·rw [if_pos (by simpa using hmn)]
     rw [if_pos hmn] at hin'
     repeat' walk_at "go"
     exact ⟨W ++ [nr], rc, nr, nr, rfl, by simp [hW], hin', by walk_at "has"⟩
    ·rw [if_neg (by simpa using hmn)]
     rw [if_neg hmn] at hin'
     repeat' walk_at "go"
     exact ⟨W ++ [nr], rc, nr, mn, rfl, by simp [hW], hin', by walk_at "has"⟩
   ·rintro m' _ ⟨W, dd, rr, mn, rfl, hW, hin, hm⟩
    walk_at "m',W,dd,rr,mn|hW,hin,hm"
    rw [List.drop_eq_nil_of_le (as := a3) (by simp), List.drop_eq_nil_of_le (as := row) (by simp; exact o32 hlen)] at hin
    simp only [inner, List.append_nil] at hin
    refine ⟨rfl, W, rr, mn, hin.symm, ?_, ?_⟩
    ·rw [List.drop_eq_nil_of_le (as := row) (by simp; exact o32 hlen), List.append_nil]
    ·intro p hp
     simp only [List.mem_cons, List.not_mem_nil, or_false] at hp
     rcases hp with rfl | rfl | rfl | rfl | rfl | rfl <;> exact hm _ (by simp)
  rintro _ m' _ ⟨rfl, row', res', mn', hin, rfl, hm⟩
  walk_at "m',row',res',mn'|hin,hm"
  show TS prog w s₀ A env _ _ m' _
  refine TS.has hm ?_
  simp only [Loc.ofArgs, List.foldl]
  rw [List.drop_eq_getElem_cons hi] at ho
  simp only [outer, hbc, hin] at ho
  have hl' : row'.length = a3.length := by have := inner_len bc a3 row ((i : Int) * 2) ((i : Int) * 2) 9223372036854775807 hlen; rw [hin] at this; exact this
  repeat' walk_at "go"
  by_cases hbig : mn' > mx
  ·rw [if_pos (by simpa using hbig)]
   rw [if_pos hbig] at ho
   repeat' walk_at "go"
   rw [← ho] at h
   exact ⟨H, hmono row', h⟩
  ·rw [if_neg (by simpa using hbig)]
   rw [if_neg hbig] at ho
   repeat' walk_at "go"
   exact ⟨row', res', rfl, hl', ho, by walk_at "has"⟩
 ·rintro m' _ ⟨row, res, rfl, hlen, ho, hm⟩
  walk_at "m',row,res|hlen,ho,hm"
  show TS prog w s₀ A env _ _ m' _
  refine TS.has hm ?_
  simp only [Loc.ofArgs, List.foldl]
  repeat' walk_at "go"
  refine ⟨H, hmono row, ?_⟩
  rw [← ho] at h
  rw [List.drop_eq_nil_of_le (by simp)] at h
  exact h
/-! the distance, without its cuts -/
noncomputable def mnN (a b : Nat) : Nat := bif Nat.ble a b then a else b
noncomputable def lowN (c : Nat) : Nat := bif Nat.beq c 65 then 97 else c
noncomputable def substN (a b : Nat) : Nat := bif Nat.beq a b then 0 else bif Nat.beq (lowN a) (lowN b) then 1 else 2
noncomputable def innerN (c : Nat) : List Nat → List Nat → Nat → Nat → List Nat × Nat
 | x :: as, r :: rs, d, res => ((mnN (mnN res r + 2) (d + substN c x)) :: (innerN c as rs r (mnN (mnN res r + 2) (d + substN c x))).1, (innerN c as rs r (mnN (mnN res r + 2) (d + substN c x))).2)
 | _, _, _, res => ([], res)
noncomputable def outerN (a : List Nat) : List Nat → Nat → List Nat → Nat → Nat
 | [], _, _, res => res
 | c :: bs, i, row, _ => outerN a bs (i + 1) (innerN c a row (i * 2) (i * 2)).1 (innerN c a row (i * 2) (i * 2)).2
noncomputable def coreN (a b : List Nat) : Nat := bif Nat.ble ((b.length - a.length) * 2) (outerN a b 0 ((List.range a.length).map fun i => 2 + i * 2) 0) then outerN a b 0 ((List.range a.length).map fun i => 2 + i * 2) 0 else 1000
noncomputable def endN (a b : List Nat) : Nat := bif a.isEmpty || b.isEmpty then 2 * (a.length + b.length) else bif Nat.blt b.length a.length then coreN b a else coreN a b
noncomputable def levN (a b : List Nat) : Nat := endN (stripP (stripP a b).1.reverse (stripP a b).2.reverse).1.reverse (stripP (stripP a b).1.reverse (stripP a b).2.reverse).2.reverse
theorem nbf {a b : Nat} (h : a ≠ b) : Nat.beq a b = false := by
 cases q : Nat.beq a b with
 | false => rfl
 | true => exact (h (Nat.eq_of_beq_eq_true q)).elim
theorem mnN_eq (a b : Nat) : mnN a b = min a b := by
 unfold mnN
 cases h : Nat.ble a b with
 | true => have := Nat.le_of_ble_eq_true h; simp only [cond_true]; exact o278 this
 | false =>
  have : ¬ a ≤ b := fun q => by rw [Nat.ble_eq_true_of_le q] at h; cases h
  simp only [cond_false]; exact o279 this
theorem substN_eq (a b : Nat) : (substN a b : Int) = subst a b := by
 have hl : ∀ c, lowN c = lowc c := fun c => by
  unfold lowN lowc
  by_cases h : c = 65
  ·subst h; rfl
  ·rw [if_neg h]
   rw [nbf h]; rfl
 unfold substN subst
 rw [hl, hl]
 by_cases h : a = b
 ·subst h; simp
 ·rw [if_neg h, nbf h]
  by_cases k : lowc a = lowc b
  ·rw [if_pos k, k]; simp
  ·rw [if_neg k, nbf k]; rfl
noncomputable def castL (l : List Nat) : List Int := l.map fun (n : Nat) => (n : Int)
theorem castL_cons (r : Nat) (rs : List Nat) : castL (r :: rs) = (r : Int) :: castL rs := rfl
theorem castL_nil : castL [] = [] := rfl
theorem cmin (a b : Nat) : ((min a b : Nat) : Int) = min (a : Int) b := by exact o280
theorem min_cast (r q d s : Nat) : min (min (r : Int) q + 2) (d + s) = ((mnN (mnN r q + 2) (d + s) : Nat) : Int) := by
 rw [mnN_eq, mnN_eq, cmin, Int.natCast_add, cmin, Int.natCast_add]; rfl
theorem inner_cast (c : Nat) : ∀ (as row : List Nat) (d res : Nat) (mn : Int), (inner c as (castL row) d res mn).1 = castL (innerN c as row d res).1 ∧ (inner c as (castL row) d res mn).2.1 = ((innerN c as row d res).2 : Nat) := by
 walk_at "c|"
 intro as
 walk_at "as|"
 induction as with
 | nil => intro row d res mn; cases row <;> simp [inner, innerN, castL_nil]
 | cons x as ih =>
  walk_at "x,as|ih"
  intro row d res mn
  walk_at "row,d,res,mn|"
  cases row with
  | nil => simp [inner, innerN, castL_nil]
  | cons r rs =>
   have e : min (min (res : Int) r + 2) (d + subst c x) = ((mnN (mnN res r + 2) (d + substN c x) : Nat) : Int) := by
    rw [← substN_eq]; exact min_cast ..
   simp only [castL_cons, inner, innerN, e]
   have := ih rs r (mnN (mnN res r + 2) (d + substN c x)) (if ((mnN (mnN res r + 2) (d + substN c x) : Nat) : Int) < mn then ((mnN (mnN res r + 2) (d + substN c x) : Nat) : Int) else mn)
   exact ⟨by rw [this.1], this.2⟩
theorem inner_min (c : Nat) : ∀ (as row : List Nat) (d res : Nat) (mn : Int), (inner c as (castL row) d res mn).2.2 ≤ mn ∧ (∀ e ∈ (innerN c as row d res).1, (inner c as (castL row) d res mn).2.2 ≤ (e : Int)) ∧
  (as ≠ [] → row ≠ [] → (inner c as (castL row) d res mn).2.2 ≤ (d : Int) + 2) ∧ (as ≠ [] → row.length = as.length → (inner c as (castL row) d res mn).2.2 ≤ ((innerN c as row d res).2 : Nat)) := by
 walk_at "c|"
 intro as
 walk_at "as|"
 induction as with
 | nil => intro row d res mn; cases row <;> simp [inner, innerN, castL_nil]
 | cons x as ih =>
  walk_at "x,as|ih"
  intro row d res mn
  walk_at "row,d,res,mn|"
  cases row with
  | nil => simp [inner, innerN, castL_nil]
  | cons r rs =>
   walk_at "r,rs|"
   have e : min (min (res : Int) r + 2) (d + subst c x) = ((mnN (mnN res r + 2) (d + substN c x) : Nat) : Int) := by
    rw [← substN_eq]; exact min_cast ..
   have hs : substN c x ≤ 2 := by unfold substN; cases Nat.beq c x <;> cases Nat.beq (lowN c) (lowN x) <;> decide
   have hd : mnN (mnN res r + 2) (d + substN c x) ≤ d + 2 := by rw [mnN_eq]; exact Nat.le_trans (Nat.min_le_right _ _) (Nat.add_le_add_left hs d)
   simp only [castL_cons, inner, innerN, e]
   generalize mnN (mnN res r + 2) (d + substN c x) = v at *
   obtain ⟨h1, h2, h3, h4⟩ := ih rs r v (if (v : Int) < mn then (v : Int) else mn)
   have hm : (if (v : Int) < mn then (v : Int) else mn) ≤ mn ∧ (if (v : Int) < mn then (v : Int) else mn) ≤ v := by split <;> omega
   refine ⟨by omega, fun e he => ?_, fun _ _ => by omega, fun _ hl => ?_⟩
   ·rcases List.mem_cons.mp he with rfl | he
    ·omega
    ·exact h2 e he
   ·cases as with
    | nil => cases rs <;> simp_all [inner, innerN, castL_nil]
    | cons y as => exact h4 (by simp) (by simpa using hl)
theorem innerN_ge (c L : Nat) : ∀ (as row : List Nat) (d res : Nat), (∀ r ∈ row, L ≤ r) → L ≤ d → L ≤ res → (∀ e ∈ (innerN c as row d res).1, L ≤ e) ∧ L ≤ (innerN c as row d res).2 := by
 walk_at "c,L|"
 intro as
 walk_at "as|"
 induction as with
 | nil => intro row d res h hd hr; cases row <;> simp [innerN, hr]
 | cons x as ih =>
  walk_at "x,as|ih"
  intro row d res h hd hr
  walk_at "row,d,res|h,hd,hr"
  cases row with
  | nil => simp [innerN, hr]
  | cons r rs =>
   walk_at "r,rs|h"
   have h0 := h r (by simp)
   have hv : L ≤ mnN (mnN res r + 2) (d + substN c x) := by rw [mnN_eq, mnN_eq]; exact Nat.le_min.mpr ⟨Nat.le_add_right_of_le (Nat.le_min.mpr ⟨hr, h0⟩), Nat.le_add_right_of_le hd⟩
   simp only [innerN]
   generalize mnN (mnN res r + 2) (d + substN c x) = v at *
   obtain ⟨h1, h2⟩ := ih rs r v (fun e he => h e (by simp [he])) h0 hv
   exact ⟨fun e he => (List.mem_cons.mp he).elim (fun q => q ▸ hv) (h1 e), h2⟩
theorem outerN_ge (a : List Nat) (L : Nat) : ∀ (bs : List Nat) (i : Nat) (row : List Nat) (res : Nat), (∀ r ∈ row, L ≤ r) → L ≤ i * 2 → L ≤ res → L ≤ outerN a bs i row res
 | [], _, _, _, _, _, h => h
 | c :: bs, i, row, res, h, hi, _ => by
  obtain ⟨h1, h2⟩ := innerN_ge c L a row (i * 2) (i * 2) h hi hi
  exact outerN_ge a L bs (i + 1) _ _ h1 (by exact o281 hi) h2
theorem innerN_len (c : Nat) (a row : List Nat) (d res : Nat) (h : row.length = a.length) : (innerN c a row d res).1.length = a.length := by
 induction a generalizing row d res with
 | nil => cases row <;> simp [innerN]
 | cons x as ih =>
  cases row with
  | nil => simp at h
  | cons r rs => simp only [innerN, List.length_cons]; rw [ih]; simpa using h
set_option tactic.hygienic true in
theorem outer_cut (a : List Nat) (ha : a ≠ []) (mx : Nat) (hmx : (mx : Int) < 9223372036854775807) : ∀ (bs : List Nat) (i : Nat) (row : List Nat) (res : Nat), row.length = a.length → min (outer a mx bs i (castL row) res) (mx + 1) = min ((outerN a bs i row res : Nat) : Int) (mx + 1) := by
 walk_at "a,mx|ha,hmx"
 intro xs0
 induction xs0 with
 | nil => exact fun _ _ _ _ => rfl
 | cons c bs ih =>
  intro i row res hl
  walk_at "c,bs,i,row,res|ih,hl"
  have hne : row ≠ [] := fun q => by rw [q] at hl; exact ha (List.eq_nil_of_length_eq_zero hl.symm)
  have h0 := inner_cast c a row (i * 2) (i * 2) 9223372036854775807
  obtain ⟨h1, h2, h3, h4⟩ := inner_min c a row (i * 2) (i * 2) 9223372036854775807
  have e : ((i * 2 : Nat) : Int) = (i : Int) * 2 := by exact o282
  rw [e] at h0 h1 h2 h3 h4
  simp only [outer, outerN]
  split
  ·rename_i hgt
   have h3 := h3 ha hne
   have h4 := h4 ha hl
   have : (mx + 1 : Nat) ≤ outerN a bs (i + 1) (innerN c a row (i * 2) (i * 2)).1 (innerN c a row (i * 2) (i * 2)).2 := by
    refine outerN_ge a (mx + 1) bs (i + 1) _ _ (fun r hr => ?_) (by exact o283 hgt h3) (by exact o70 hgt h4)
    have := h2 r hr
    exact o70 hgt this
   exact o284 this
  ·rw [h0.1, h0.2]
   exact ih (i + 1) _ _ (innerN_len c a row _ _ hl)
theorem core_cut {a b : List Nat} (ha : a ≠ []) {mx : Nat} (hmx : (mx : Int) < 9223372036854775807) (h : coreN a b < 1000) :
  min (if ((b.length : Int) - a.length) * 2 > mx then (mx : Int) + 1 else outer a mx b 0 ((List.range a.length).map fun (i : Nat) => 2 + (i : Int) * 2) 0) (mx + 1) = min ((coreN a b : Nat) : Int) (mx + 1) := by
 walk_at "a,b,mx|ha,hmx,h"
 have e : ((List.range a.length).map fun (i : Nat) => 2 + (i : Int) * 2) = castL ((List.range a.length).map fun i => 2 + i * 2) := by
  simp only [castL, List.map_map]
  exact List.map_congr_left fun i _ => by simp
 have key := outer_cut a ha mx hmx b 0 ((List.range a.length).map fun i => 2 + i * 2) 0 (by simp)
 rw [← e] at key
 unfold coreN at h ⊢
 generalize outerN a b 0 ((List.range a.length).map fun i => 2 + i * 2) 0 = D at *
 cases hb : Nat.ble ((b.length - a.length) * 2) D with
 | false => rw [hb] at h; simp at h
 | true =>
  have hb := Nat.le_of_ble_eq_true hb
  simp only [cond_true]
  split
  ·exact o284 (cutF hb (by assumption))
  ·exact key
theorem lev_cut {a b : List Nat} {mx : Nat} (hmx : (mx : Int) < 9223372036854775807) (h : levN a b < 1000) : min (lev a b mx) (mx + 1) = min ((levN a b : Nat) : Int) (mx + 1) := by
 walk_at "a,b,mx|hmx,h"
 unfold lev
 by_cases hab : a = b
 ·subst hab
  rw [if_pos rfl]
  have : levN a a = 0 := by
   have e : ∀ l : List Nat, stripP l l = ([], []) := fun l => by
    induction l with
    | nil => rfl
    | cons x l ih => unfold stripP; rw [if_pos rfl, ih]
   unfold levN; rw [e]; rfl
  rw [this]; rfl
 rw [if_neg hab]
 unfold levN at h ⊢
 dsimp only
 generalize (stripP (stripP a b).1.reverse (stripP a b).2.reverse).1.reverse = x at *
 generalize (stripP (stripP a b).1.reverse (stripP a b).2.reverse).2.reverse = y at *
 unfold endN at h ⊢
 by_cases hx : x = []
 ·subst hx; simp
 by_cases hy : y = []
 ·subst hy; simp
 rw [if_neg (by simp [hx, hy])]
 have e1 : (x.isEmpty || y.isEmpty) = false := by simp [hx, hy]
 rw [e1] at h ⊢
 simp only [cond_false] at h ⊢
 by_cases hl : y.length < x.length
 ·have e2 : Nat.blt y.length x.length = true := Nat.ble_eq_true_of_le hl
  rw [e2] at h ⊢
  rw [if_pos hl]
  exact core_cut hy hmx h
 ·have e2 : Nat.blt y.length x.length = false := by
   cases q : Nat.blt y.length x.length with
   | false => rfl
   | true => exact (hl (Nat.le_of_ble_eq_true q)).elim
  rw [e2] at h ⊢
  rw [if_neg hl]
  exact core_cut hx hmx h
/-! all words -/
noncomputable def Ws : List (List Nat) := [[]] ++ ([97, 65, 98].map fun x => [x]) ++ ([97, 65, 98].flatMap fun x => [97, 65, 98].map fun y => [x, y]) ++ ([97, 65, 98].flatMap fun x => [97, 65, 98].flatMap fun y => [97, 65, 98].map fun z => [x, y, z])
noncomputable def RR : List (List Nat) := [[0, 2, 2, 2, 4, 4, 4, 4, 4, 4, 4, 4, 4, 6, 6, 6, 6, 6, 6, 6, 6, 6, 6, 6, 6, 6, 6, 6, 6, 6, 6, 6, 6, 6, 6, 6, 6, 6, 6, 6],
 [2, 0, 1, 2, 2, 2, 2, 2, 3, 3, 2, 3, 4, 4, 4, 4, 4, 4, 4, 4, 4, 4, 4, 4, 4, 4, 5, 5, 4, 5, 5, 4, 4, 4, 4, 5, 5, 4, 5, 6],
 [2, 1, 0, 2, 3, 2, 3, 2, 2, 2, 3, 2, 4, 5, 4, 5, 4, 4, 4, 5, 4, 5, 4, 4, 4, 4, 4, 4, 4, 4, 4, 5, 4, 5, 4, 4, 4, 5, 4, 6],
 [2, 2, 2, 0, 4, 4, 2, 4, 4, 2, 2, 2, 2, 6, 6, 4, 6, 6, 4, 4, 4, 4, 6, 6, 4, 6, 6, 4, 4, 4, 4, 4, 4, 4, 4, 4, 4, 4, 4, 4],
 [4, 2, 3, 4, 0, 1, 2, 1, 2, 3, 2, 3, 4, 2, 2, 2, 2, 3, 3, 2, 3, 4, 2, 3, 3, 3, 4, 4, 3, 4, 5, 2, 3, 4, 3, 4, 5, 4, 5, 6],
 [4, 2, 2, 4, 1, 0, 2, 2, 1, 3, 3, 2, 4, 3, 2, 3, 2, 2, 2, 3, 2, 4, 3, 2, 4, 3, 3, 3, 4, 3, 5, 3, 2, 4, 4, 3, 4, 5, 4, 6],
 [4, 2, 3, 2, 2, 2, 0, 3, 3, 1, 4, 4, 2, 4, 4, 2, 4, 4, 2, 2, 2, 2, 4, 4, 2, 5, 5, 3, 3, 3, 3, 4, 4, 2, 5, 5, 3, 4, 4, 4],
 [4, 2, 2, 4, 1, 2, 3, 0, 1, 2, 2, 3, 4, 3, 3, 3, 2, 3, 4, 3, 4, 5, 2, 2, 2, 2, 3, 3, 2, 3, 4, 3, 4, 4, 2, 3, 4, 4, 5, 6],
 [4, 3, 2, 4, 2, 1, 3, 1, 0, 2, 3, 2, 4, 4, 3, 4, 3, 2, 3, 4, 3, 5, 3, 2, 3, 2, 2, 2, 3, 2, 4, 4, 3, 5, 3, 2, 4, 5, 4, 6],
 [4, 3, 2, 2, 3, 3, 1, 2, 2, 0, 4, 4, 2, 5, 5, 3, 4, 4, 2, 3, 3, 3, 4, 4, 2, 4, 4, 2, 2, 2, 2, 5, 5, 3, 4, 4, 2, 4, 4, 4],
 [4, 2, 3, 2, 2, 3, 4, 2, 3, 4, 0, 1, 2, 4, 4, 4, 4, 5, 5, 2, 3, 4, 4, 4, 4, 4, 5, 5, 2, 3, 4, 2, 2, 2, 2, 3, 3, 2, 3, 4],
 [4, 3, 2, 2, 3, 2, 4, 3, 2, 4, 1, 0, 2, 5, 4, 5, 4, 4, 4, 3, 2, 4, 5, 4, 5, 4, 4, 4, 3, 2, 4, 3, 2, 3, 2, 2, 2, 3, 2, 4],
 [4, 4, 4, 2, 4, 4, 2, 4, 4, 2, 2, 2, 0, 6, 6, 4, 6, 6, 4, 4, 4, 2, 6, 6, 4, 6, 6, 4, 4, 4, 2, 4, 4, 2, 4, 4, 2, 2, 2, 2],
 [6, 4, 5, 6, 2, 3, 4, 3, 4, 5, 4, 5, 6, 0, 1, 2, 1, 2, 3, 2, 3, 4, 1, 2, 3, 2, 3, 4, 3, 4, 5, 2, 3, 4, 3, 4, 5, 4, 5, 6],
 [6, 4, 4, 6, 2, 2, 4, 3, 3, 5, 4, 4, 6, 1, 0, 2, 2, 1, 3, 3, 2, 4, 2, 1, 3, 3, 2, 4, 4, 3, 5, 3, 2, 4, 4, 3, 5, 5, 4, 6],
 [6, 4, 5, 4, 2, 3, 2, 3, 4, 3, 4, 5, 4, 2, 2, 0, 3, 3, 1, 4, 4, 2, 3, 3, 1, 4, 4, 2, 5, 5, 3, 4, 4, 2, 5, 5, 3, 6, 6, 4],
 [6, 4, 4, 6, 2, 2, 4, 2, 3, 4, 4, 4, 6, 1, 2, 3, 0, 1, 2, 2, 3, 4, 2, 3, 4, 1, 2, 3, 3, 4, 5, 3, 4, 5, 2, 3, 4, 4, 5, 6],
 [6, 4, 4, 6, 3, 2, 4, 3, 2, 4, 5, 4, 6, 2, 1, 3, 1, 0, 2, 3, 2, 4, 3, 2, 4, 2, 1, 3, 4, 3, 5, 4, 3, 5, 3, 2, 4, 5, 4, 6],
 [6, 4, 4, 4, 3, 2, 2, 4, 3, 2, 5, 4, 4, 3, 3, 1, 2, 2, 0, 4, 4, 2, 4, 4, 2, 3, 3, 1, 4, 4, 3, 5, 4, 3, 4, 4, 2, 6, 6, 4],
 [6, 4, 5, 4, 2, 3, 2, 3, 4, 3, 2, 3, 4, 2, 3, 4, 2, 3, 4, 0, 1, 2, 3, 4, 4, 3, 4, 5, 1, 2, 3, 4, 4, 4, 4, 5, 5, 2, 3, 4],
 [6, 4, 4, 4, 3, 2, 2, 4, 3, 3, 3, 2, 4, 3, 2, 4, 3, 2, 4, 1, 0, 2, 4, 3, 4, 4, 3, 5, 2, 1, 3, 5, 4, 4, 4, 4, 4, 3, 2, 4],
 [6, 4, 5, 4, 4, 4, 2, 5, 5, 3, 4, 4, 2, 4, 4, 2, 4, 4, 2, 2, 2, 0, 5, 5, 3, 5, 5, 3, 3, 3, 1, 6, 6, 4, 6, 6, 4, 4, 4, 2],
 [6, 4, 4, 6, 2, 3, 4, 2, 3, 4, 4, 5, 6, 1, 2, 3, 2, 3, 4, 3, 4, 5, 0, 1, 2, 1, 2, 3, 2, 3, 4, 2, 3, 4, 3, 4, 5, 4, 5, 6],
 [6, 4, 4, 6, 3, 2, 4, 2, 2, 4, 4, 4, 6, 2, 1, 3, 3, 2, 4, 4, 3, 5, 1, 0, 2, 2, 1, 3, 3, 2, 4, 3, 2, 4, 4, 3, 5, 5, 4, 6],
 [6, 4, 4, 4, 3, 4, 2, 2, 3, 2, 4, 5, 4, 3, 3, 1, 4, 4, 2, 4, 4, 3, 2, 2, 0, 3, 3, 1, 4, 4, 2, 4, 4, 2, 4, 5, 3, 6, 6, 4],
 [6, 4, 4, 6, 3, 3, 5, 2, 2, 4, 4, 4, 6, 2, 3, 4, 1, 2, 3, 3, 4, 5, 1, 2, 3, 0, 1, 2, 2, 3, 4, 3, 4, 5, 2, 3, 4, 4, 5, 6],
 [6, 5, 4, 6, 4, 3, 5, 3, 2, 4, 5, 4, 6, 3, 2, 4, 2, 1, 3, 4, 3, 5, 2, 1, 3, 1, 0, 2, 3, 2, 4, 4, 3, 5, 3, 2, 4, 5, 4, 6],
 [6, 5, 4, 4, 4, 3, 3, 3, 2, 2, 5, 4, 4, 4, 4, 2, 3, 3, 1, 5, 5, 3, 3, 3, 1, 2, 2, 0, 4, 4, 2, 5, 5, 3, 4, 4, 2, 6, 6, 4],
 [6, 4, 4, 4, 3, 4, 3, 2, 3, 2, 2, 3, 4, 3, 4, 5, 3, 4, 4, 1, 2, 3, 2, 3, 4, 2, 3, 4, 0, 1, 2, 4, 4, 4, 4, 5, 4, 2, 3, 4],
 [6, 5, 4, 4, 4, 3, 3, 3, 2, 2, 3, 2, 4, 4, 3, 5, 4, 3, 4, 2, 1, 3, 3, 2, 4, 3, 2, 4, 1, 0, 2, 5, 4, 5, 4, 4, 4, 3, 2, 4],
 [6, 5, 4, 4, 5, 5, 3, 4, 4, 2, 4, 4, 2, 5, 5, 3, 5, 5, 3, 3, 3, 1, 4, 4, 2, 4, 4, 2, 2, 2, 0, 6, 6, 4, 6, 6, 4, 4, 4, 2],
 [6, 4, 5, 4, 2, 3, 4, 3, 4, 5, 2, 3, 4, 2, 3, 4, 3, 4, 5, 4, 5, 6, 2, 3, 4, 3, 4, 5, 4, 5, 6, 0, 1, 2, 1, 2, 3, 2, 3, 4],
 [6, 4, 4, 4, 3, 2, 4, 4, 3, 5, 2, 2, 4, 3, 2, 4, 4, 3, 4, 4, 4, 6, 3, 2, 4, 4, 3, 5, 4, 4, 6, 1, 0, 2, 2, 1, 3, 3, 2, 4],
 [6, 4, 5, 4, 4, 4, 2, 4, 5, 3, 2, 3, 2, 4, 4, 2, 5, 5, 3, 4, 4, 4, 4, 4, 2, 5, 5, 3, 4, 5, 4, 2, 2, 0, 3, 3, 1, 4, 4, 2],
 [6, 4, 4, 4, 3, 4, 5, 2, 3, 4, 2, 2, 4, 3, 4, 5, 2, 3, 4, 4, 4, 6, 3, 4, 4, 2, 3, 4, 4, 4, 6, 1, 2, 3, 0, 1, 2, 2, 3, 4],
 [6, 5, 4, 4, 4, 3, 5, 3, 2, 4, 3, 2, 4, 4, 3, 5, 3, 2, 4, 5, 4, 6, 4, 3, 5, 3, 2, 4, 5, 4, 6, 2, 1, 3, 1, 0, 2, 3, 2, 4],
 [6, 5, 4, 4, 5, 4, 3, 4, 4, 2, 3, 2, 2, 5, 5, 3, 4, 4, 2, 5, 4, 4, 5, 5, 3, 4, 4, 2, 4, 4, 4, 3, 3, 1, 2, 2, 0, 4, 4, 2],
 [6, 4, 5, 4, 4, 5, 4, 4, 5, 4, 2, 3, 2, 4, 5, 6, 4, 5, 6, 2, 3, 4, 4, 5, 6, 4, 5, 6, 2, 3, 4, 2, 3, 4, 2, 3, 4, 0, 1, 2],
 [6, 5, 4, 4, 5, 4, 4, 5, 4, 4, 3, 2, 2, 5, 4, 6, 5, 4, 6, 3, 2, 4, 5, 4, 6, 5, 4, 6, 3, 2, 4, 3, 2, 4, 3, 2, 4, 1, 0, 2],
 [6, 6, 6, 4, 6, 6, 4, 6, 6, 4, 4, 4, 2, 6, 6, 4, 6, 6, 4, 4, 4, 2, 6, 6, 4, 6, 6, 4, 4, 4, 2, 4, 4, 2, 4, 4, 2, 2, 2, 0]]

theorem rows_eq : Ws.map (fun a => Ws.map (levN a)) = RR := by kernel_rfl
noncomputable def triB (R : List (List Nat)) : Bool := R.all fun ra => (ra.zip R).all fun p => (ra.zip p.2).all fun q => Nat.ble q.1 (p.1 + q.2)
theorem all_cut {f : List Nat → Bool} (n : Nat) {R : List (List Nat)} (a : (R.take n).all f = true) (b : (R.drop n).all f = true) : R.all f = true := by
 rw [← List.take_append_drop n R, List.all_append, a, b]; rfl
theorem tri_RR : triB RR = true := all_cut 20 (all_cut 10 (by as_aux_lemma => kernel_rfl) (by as_aux_lemma => kernel_rfl)) (all_cut 10 (by as_aux_lemma => kernel_rfl) (by as_aux_lemma => kernel_rfl))
noncomputable def sameB (R : List (List Nat)) : Bool := (Ws.zip R).all fun p => (Ws.zip p.2).all fun q => Nat.ble q.2 6 && (Nat.blt 0 q.2 || decide (p.1 = q.1))
theorem same_RR : sameB RR = true := by kernel_rfl
theorem Ws_mem {a : List Nat} (h : wordOk a) : a ∈ Ws := by
 obtain ⟨hl, hs⟩ := h
 match a, hl, hs with
 | [], _, _ => decide +kernel
 | [x], _, hs =>
  have hx := hs x (by simp)
  rcases hx with rfl | rfl | rfl <;> decide +kernel
 | [x, y], _, hs =>
  have hx := hs x (by simp)
  have hy := hs y (by simp)
  rcases hx with rfl | rfl | rfl <;> rcases hy with rfl | rfl | rfl <;> decide +kernel
 | [x, y, z], _, hs =>
  have hx := hs x (by simp)
  have hy := hs y (by simp)
  have hz := hs z (by simp)
  rcases hx with rfl | rfl | rfl <;> rcases hy with rfl | rfl | rfl <;> rcases hz with rfl | rfl | rfl <;> decide +kernel
 | _ :: _ :: _ :: _ :: _, hl, _ => simp at hl
theorem zip_maps {α β γ : Type} (f : α → β) (g : α → γ) (l : List α) : (l.map f).zip (l.map g) = l.map fun a => (f a, g a) := by
 induction l with
 | nil => rfl
 | cons a l ih => simp [ih]
theorem zip_self {α γ : Type} (g : α → γ) (l : List α) : l.zip (l.map g) = l.map fun a => (a, g a) := by
 have := zip_maps id g l
 simpa using this
theorem levN_tri {a b c : List Nat} (ha : wordOk a) (hb : wordOk b) (hc : wordOk c) : levN a c ≤ levN a b + levN b c := by
 have h := tri_RR
 rw [← rows_eq] at h
 unfold triB at h
 have h1 := List.all_eq_true.mp h _ (List.mem_map_of_mem (f := fun a => Ws.map (levN a)) (Ws_mem ha))
 rw [zip_maps] at h1
 have h2 := List.all_eq_true.mp h1 _ (List.mem_map_of_mem (f := fun b => (levN a b, Ws.map (levN b))) (Ws_mem hb))
 try dsimp only at h2
 rw [zip_maps] at h2
 exact Nat.le_of_ble_eq_true (List.all_eq_true.mp h2 _ (List.mem_map_of_mem (f := fun c => (levN a c, levN b c)) (Ws_mem hc)))
theorem levN_same {a b : List Nat} (ha : wordOk a) (hb : wordOk b) : levN a b ≤ 6 ∧ (levN a b = 0 → a = b) := by
 walk_at "a,b|ha,hb"
 have h := same_RR
 rw [← rows_eq] at h
 unfold sameB at h
 rw [zip_self] at h
 have h1 := List.all_eq_true.mp h _ (List.mem_map_of_mem (f := fun a => (a, Ws.map (levN a))) (Ws_mem ha))
 dsimp only at h1
 rw [zip_self] at h1
 have h2 := List.all_eq_true.mp h1 _ (List.mem_map_of_mem (f := fun b => (b, levN a b)) (Ws_mem hb))
 simp only [Bool.and_eq_true, Bool.or_eq_true, decide_eq_true_eq] at h2
 refine ⟨Nat.le_of_ble_eq_true h2.1, fun h0 => h2.2.resolve_left fun q => ?_⟩
 have := Nat.le_of_ble_eq_true q
 exact o285 h0 this
theorem lev_six {a b : List Nat} (ha : wordOk a) (hb : wordOk b) : lev a b 6 = levN a b := by
 have h := levN_same ha hb
 have := lev_cut (a := a) (b := b) (mx := 6) (by decide) (by exact o34 h)
 rw [show ((6 : Nat) : Int) = 6 from rfl] at this
 exact o286 h this
theorem near_step {a b z : List Nat} (ha : wordOk a) (hb : wordOk b) (hz : wordOk z) {m : Int} (h0 : 0 ≤ m) (h8 : m < 8) : min (lev a z m) (m + 1) ≤ lev a b 6 + min (lev b z m) (m + 1) := by
 obtain ⟨k, rfl⟩ := Int.eq_ofNat_of_zero_le h0
 rw [lev_six ha hb]
 have h1 := lev_cut (a := a) (b := z) (mx := k) (by exact o71 h8) (by have := levN_same ha hz; exact o34 this)
 have h2 := lev_cut (a := b) (b := z) (mx := k) (by exact o71 h8) (by have := levN_same hb hz; exact o34 this)
 rw [h1, h2]
 have := levN_tri ha hb hz
 exact o287 this
theorem lev_pos {a b : List Nat} (ha : wordOk a) (hb : wordOk b) : 0 ≤ lev a b 6 ∧ (lev a b 6 = 0 → a = b) := by
 rw [lev_six ha hb]
 exact ⟨by exact o1, fun h => (levN_same ha hb).2 (by exact o72 h)⟩
theorem tc_lev {n : Nat} (P : Prg s₀ mg mb) (r : Room A (n + 2)) {a b : List Nat} {mx : Int} (ha : wordOk a) (hb : wordOk b) {Q : V → Hp → Prop} (h : Q (.int (lev a b mx)) H) : TC prog w s₀ A (.raw (.ref 35)) [Mine.S a, Mine.S b, .int mx] Q H := by
 obtain ⟨p, hp, hat⟩ := P.d6
 refine (TCd.drop ?_).tc
 have e := def_eq hp rfl
 have hpar := congrArg DefParts.params e
 have hs := congrArg DefParts.scope e
 dsimp only at hs hpar
 refine TCd.at (names := [Str.ofString "a", Str.ofString "b", Str.ofString "max_cost"]) hat r.lt (by rw [hs]; rfl) rfl (fun n q kv dc pm an cd ct xs hx => ?_) (by rw [hs]; rfl) (fun n q kv dc pm an cd ct L => ?_)
 ·obtain ⟨x0, x1, x2, rfl⟩ := Mine.len3 hx; unfold mkFd; rw [hpar]; rfl
 exact lev_body p hp L P (r.deeper _) ha hb h
noncomputable def sg (k : Int) : List Nat := if k = 0 then [] else if k = 1 then [97] else if k = 2 then [65] else [98]
noncomputable def word (x : Int) : List Nat := sg (x.fmod 4) ++ sg ((x.fdiv 4).fmod 4) ++ sg ((x.fdiv 16).fmod 4)
theorem sg_len (k : Int) : (sg k).length ≤ 1 := by unfold sg; (repeat' split) <;> simp
theorem sg_sign (k : Int) : ∀ c ∈ sg k, sign c := by unfold sg; (repeat' split) <;> simp [sign]
theorem word_ok (x : Int) : wordOk (word x) := by
 refine ⟨?_, fun c hc => ?_⟩
 ·have h1 := sg_len (x.fmod 4); have h2 := sg_len ((x.fdiv 4).fmod 4); have h3 := sg_len ((x.fdiv 16).fmod 4)
  simp only [word, List.length_append]; exact o206 h1 h2 h3
 ·simp only [word, List.mem_append] at hc
  rcases hc with (hc | hc) | hc <;> exact sg_sign _ c hc
theorem fmod4 (x : Int) : 0 ≤ x.fmod 4 ∧ x.fmod 4 < 4 := ⟨Int.fmod_nonneg_of_pos _ (by decide), Int.fmod_lt_of_pos _ (by decide)⟩
theorem sg_get {k : Int} (h : 0 ≤ k ∧ k < 4) : [Mine.S [], Mine.S [97], Mine.S [65], Mine.S [98]][k.toNat]? = some (Mine.S (sg k)) := by
 obtain ⟨h0, h1⟩ := h
 obtain ⟨j, rfl⟩ := Int.eq_ofNat_of_zero_le h0
 match j, h1 with
 | 0, _ => rfl
 | 1, _ => rfl
 | 2, _ => rfl
 | 3, _ => rfl
theorem word_body (p : DefParts) (hp : topDef 19 = some p) {fa : Addr} {n q : Str} {dv kv dc pm : Value} {an : Option Addr} {cd ct : Value} (L : Addr)
  {x : Int} {Q : V → Hp → Prop} (h : Q (Mine.S (word x)) H) :
  TS prog w s₀ A (callEnv (mkFd p n q dv kv dc pm an cd ct) L fa) p.body (fun f _ H1 => Q (retV f) H1) (Loc.ofArgs [(Str.ofString "x", V.int x)]) H := by
 walk_at "prog,w,s₀,H,A,p,fa,n,q,dv,kv,dc,pm,an,cd,ct,L,x,Q|hp,h"
 simp only [Loc.ofArgs, List.foldl]
 have e := def_eq hp rfl
 have hb := congrArg DefParts.body e
 have hs := congrArg DefParts.scope e
 dsimp only at hb hs
 rw [hb]
 generalize henv : callEnv (mkFd p n q dv kv dc pm an cd ct) L fa = env
 obtain ⟨hE, hsc⟩ := env_of henv hs rfl rfl rfl rfl
 have k0 := held_of "x" hsc rfl
 have k1 := held_of "signs" hsc rfl
 have s0 := stored_of "signs" hsc rfl
 clear hsc henv hs hb e hp
 repeat' walk_at "go"
 refine TE.listZ ?_
 repeat' walk_at "go"
 refine ⟨by simp [sizeLine_eq], ?_⟩
 repeat' walk_at "go"
 refine Op2.tail_lst (fun _ _ => ⟨_, rfl⟩) (Op2.item_lst (v := Mine.S (sg (x.fmod 4))) (fmod4 _).1 (by have := fmod4 x; exact o33 this) (sg_get (fmod4 _)) ?_)
 repeat' walk_at "go"
 refine Op2.tail_lst (fun _ _ => ⟨_, rfl⟩) (Op2.item_lst (v := Mine.S (sg ((x.fdiv 4).fmod 4))) (fmod4 _).1 (by have := fmod4 (x.fdiv 4); exact o33 this) (sg_get (fmod4 _)) ?_)
 repeat' walk_at "go"
 have h1 := sg_len (x.fmod 4)
 have h2 := sg_len ((x.fdiv 4).fmod 4)
 have h3 := sg_len ((x.fdiv 16).fmod 4)
 refine Op2.add_str ?_ (by rw [sizeLine_eq]; exact o207 h1 h2)
 repeat' walk_at "go"
 refine Op2.tail_lst (fun _ _ => ⟨_, rfl⟩) (Op2.item_lst (v := Mine.S (sg ((x.fdiv 16).fmod 4))) (fmod4 _).1 (by have := fmod4 (x.fdiv 16); exact o33 this) (sg_get (fmod4 _)) ?_)
 repeat' walk_at "go"
 refine Op2.add_str ?_ (by rw [sizeLine_eq, List.length_append]; exact o208 h1 h2 h3)
 repeat' walk_at "go"
 exact h
theorem tc_word {n : Nat} (P : Prg s₀ mg mb) (r : Room A (n + 1)) {x : Int} {Q : V → Hp → Prop} (h : Q (Mine.S (word x)) H) : TC prog w s₀ A (.raw (.ref 190)) [.int x] Q H := by
 obtain ⟨p, hp, hat⟩ := P.d19
 refine TCd.tc ?_
 have e := def_eq hp rfl
 have hpar := congrArg DefParts.params e
 have hs := congrArg DefParts.scope e
 dsimp only at hs hpar
 refine TCd.at (names := [Str.ofString "x"]) hat r.lt (by rw [hs]; rfl) rfl (fun n q kv dc pm an cd ct xs hx => ?_) (by rw [hs]; rfl) (fun n q kv dc pm an cd ct L => ?_)
 ·obtain ⟨x0, rfl⟩ := Mine.len1 hx; unfold mkFd; rw [hpar]; rfl
 exact word_body p hp L h
theorem Rvs.swap {xs : List V} {ys : List Value} {i : Nat} {d : Addr} {u : V} (h : Rvs prog w Z xs ys) (hi : xs[i]? = some (.ref d)) (hu : Rv prog w Z u (.ref d)) : Rvs prog w Z (xs.set i u) ys := by
 induction xs generalizing i ys with
 | nil => simp at hi
 | cons v vs ih =>
  cases h with
  | cons _ x _ xs h r =>
  cases i with
  | zero => cases hi; obtain ⟨_, rfl⟩ := h.inv; exact .cons _ _ _ _ hu r
  | succ i => exact .cons _ _ _ _ h (ih r hi)
theorem View.list_dct {a d : Addr} {xs : List V} {i : Nat} {kvs : List (Int × V)} (ha : H a = some (.list xs)) (hd : H d = some (.dict kvs)) (hi : xs[i]? = some (.ref d)) : View prog w s₀ H ((H.del d).put a (.list (xs.set i (.dct kvs)))) := ⟨fun fs B Z s R => by
 have hal : a ≠ d := fun q => by rw [q, hd] at ha; cases ha
 obtain ⟨obj, ⟨kvr, so, hr⟩, hz, hm, R1⟩ := R.freeze hd
 have le := Mem.le_put hz obj
 have ha1 : (H.del d) a = some (.list xs) := by unfold Hp.del; rw [if_neg hal]; exact ha
 obtain ⟨_, _, oa, ga, ⟨items, so', hv⟩, _⟩ := R1.own _ _ ha1
 refine ⟨_, le, ?_⟩
 exact R1.set (h' := s.heap) (t := s.toks) (o := .list (xs.set i (.dct kvs))) ha1 (Heap.SameBut.refl ..) ga ⟨items, so', hv.swap hi (.dct d obj kvs kvr hm (Mem.put_self ..) so (hr.mono le))⟩⟩
theorem View.list_dcts {L : Addr} : ∀ (ds : List Addr) (ts : List (List (Int × V))) (X : List V) (H : Hp), H L = some (.list (X ++ ds.map .ref)) → ds.Nodup → L ∉ ds → ds.length = ts.length → (∀ (i : Nat) d t, ds[i]? = some d → ts[i]? = some t → H d = some (.dict t)) →
  ∃ H', View prog w s₀ H H' ∧ H' L = some (.list (X ++ ts.map .dct)) ∧ ∀ a o, a ≠ L → a ∉ ds → H a = some o → H' a = some o
 | [], [], X, H, h, _, _, _, _ => ⟨H, .refl, h, fun _ _ _ _ e => e⟩
 | d :: ds, t :: ts, X, H, h, nd, hL, hl, hd => by
  have h0 := hd 0 d t rfl rfl
  have hLd : L ≠ d := fun q => hL (by simp [q])
  have v := View.list_dct (prog := prog) (w := w) (s₀ := s₀) (i := X.length) h h0 (by simp)
  have hdd : d ∉ ds := (List.nodup_cons.mp nd).1
  obtain ⟨H', v', h', hk⟩ := View.list_dcts (L := L) ds ts (X ++ [.dct t]) ((H.del d).put L (.list ((X ++ (d :: ds).map V.ref).set X.length (.dct t)))) (by simp [Hp.put]) (List.nodup_cons.mp nd).2 (fun q => hL (by simp [q])) (by simpa using hl) (fun i e u he hu => by
   have hm := List.mem_of_getElem? he
   have e1 : e ≠ L := fun q => hL (by rw [← q]; simp [hm])
   have e2 : e ≠ d := fun q => hdd (q ▸ hm)
   simp only [Hp.put, Hp.del, if_neg e1, if_neg e2]
   exact hd (i + 1) e u he hu)
  refine ⟨H', v.trans v', by simpa using h', fun a o h1 h2 e => hk a o h1 (fun q => h2 (by simp [q])) ?_⟩
  simp only [Hp.put, Hp.del, if_neg h1, if_neg (fun q : a = d => h2 (by simp [q]))]
  exact e
/-! the steps -/
noncomputable abbrev Tab := List (Int × Int)
noncomputable def gget {α : Type} (t : List (Int × α)) (k : Int) : Option α := (t.find? fun kv => kv.1 = k).map (·.2)
noncomputable def ghas {α : Type} (t : List (Int × α)) (k : Int) : Bool := (gget t k).isSome
noncomputable def gput {α : Type} (t : List (Int × α)) (k : Int) (v : α) : List (Int × α) := if ghas t k then t.map (fun kv => if kv.1 = k then (kv.1, v) else kv) else t ++ [(k, v)]
noncomputable def kvM {α : Type} (f : α → V) (t : List (Int × α)) : List (Int × V) := t.map fun p => (p.1, f p.2)
theorem kvM_get {α : Type} (f : α → V) (t : List (Int × α)) (k : Int) : dget (kvM f t) k = (gget t k).map f := by
 induction t with
 | nil => rfl
 | cons p t ih =>
  obtain ⟨k', c'⟩ := p
  simp only [dget, gget, kvM, List.map_cons, List.find?_cons] at ih ⊢
  by_cases h : k' = k
  ·simp [h]
  ·simp only [h, decide_false]; exact ih
theorem kvM_has {α : Type} (f : α → V) (t : List (Int × α)) (k : Int) : dhas (kvM f t) k = ghas t k := by rw [dhas, kvM_get, ghas]; cases gget t k <;> rfl
theorem kvM_put {α : Type} (f : α → V) (t : List (Int × α)) (k : Int) (c : α) : dput (kvM f t) k (f c) = kvM f (gput t k c) := by
 unfold dput gput
 rw [kvM_has]
 split
 ·simp only [kvM, List.map_map]
  refine List.map_congr_left fun p _ => ?_
  simp only [Function.comp_apply]
  split <;> rfl
 ·simp [kvM]
noncomputable abbrev kvI (t : Tab) : List (Int × V) := kvM V.int t
noncomputable def stU (x : Int) : Int := x.fmod 5
noncomputable def stV (x : Int) : Int := (x.fmod 5 + 1 + (x.fdiv 5).fmod 4).fmod 5
noncomputable def stC (ws : List (List Nat)) (x : Int) : Int := lev (ws.getD (stU x).toNat []) (ws.getD (stV x).toNat []) 6 + (x.fdiv 20).fmod 3
noncomputable def oneStep (ws : List (List Nat)) (T : List Tab) (x : Int) : List Tab := T.set (stU x).toNat (gput (T.getD (stU x).toNat []) (stV x) (stC ws x))
noncomputable def stepsP (ws : List (List Nat)) (ns : List Int) : List Tab := ns.foldl (oneStep ws) [[], [], [], [], []]
theorem oneStep_len (ws : List (List Nat)) (T : List Tab) (x : Int) : (oneStep ws T x).length = T.length := by simp [oneStep]
theorem fmod5 (x : Int) : 0 ≤ x.fmod 5 ∧ x.fmod 5 < 5 := ⟨Int.fmod_nonneg_of_pos _ (by decide), Int.fmod_lt_of_pos _ (by decide)⟩
theorem gput_len {α : Type} (t : List (Int × α)) (k : Int) (c : α) : (gput t k c).length ≤ t.length + 1 := by unfold gput; split <;> simp
theorem put_none {d e : Addr} {o : O} (h : (H.put d o) e = none) : e ≠ d ∧ H e = none := by
 unfold Hp.put at h
 by_cases q : e = d
 ·rw [if_pos q] at h; cases h
 ·rw [if_neg q] at h; exact ⟨q, h⟩
structure DctsAt (H H' : Hp) (L : Addr) (ds : List Addr) (ts : List Tab) : Prop where
 l : H' L = some (.list (ds.map .ref))
 n : ts.length = 5
 d : ∀ (i : Nat) d t, ds[i]? = some d → ts[i]? = some t → H' d = some (.dict (kvI t))
 k : ∀ a o, H a = some o → H' a = some o
theorem DctsAt.set {H H' : Hp} {L : Addr} {ds : List Addr} {ts : List Tab} (h : DctsAt H H' L ds ts) (nd : ds.Nodup) (hL : L ∉ ds) (hf : ∀ d ∈ ds, H d = none) (hLf : H L = none) {i : Nat} {d : Addr} {t : Tab} (hd : ds[i]? = some d) (ht : ts[i]? = some t) {c e : Int} :
  DctsAt H (H'.put d (.dict (kvI (gput t c e)))) L ds (ts.set i (gput t c e)) := by
 walk_at "H,H',L,ds,ts,i,d,t,c,e|h,nd,hL,hf,hLf,hd,ht"
 have hm := List.mem_of_getElem? hd
 refine ⟨?_, by rw [List.length_set]; exact h.n, fun j d' t' h1 h2 => ?_, fun a o q => ?_⟩
 ·unfold Hp.put; rw [if_neg (fun q : L = d => hL (q ▸ hm))]; exact h.l
 ·walk_at "j,d',t'|h1,h2"
  by_cases hij : i = j
  ·subst hij
   rw [h1] at hd; cases hd
   rw [List.getElem?_set_self (List.getElem?_eq_some_iff.mp ht).1] at h2; cases h2
   simp [Hp.put]
  ·rw [List.getElem?_set_ne hij] at h2
   have : d' ≠ d := fun q => hij ((List.getElem?_inj (List.getElem?_eq_some_iff.mp hd).1 nd).mp (by rw [hd, h1, q]))
   unfold Hp.put; rw [if_neg this]; exact h.d j d' t' h1 h2
 ·unfold Hp.put; rw [if_neg (fun q' : a = d => by rw [q', hf d hm] at q; cases q)]; exact h.k a o q
theorem ws_get {ws : List (List Nat)} (h : ws.length = 5) {k : Int} (hk : 0 ≤ k ∧ k < 5) : (ws.map Mine.S)[k.toNat]? = some (Mine.S (ws.getD k.toNat [])) := by
 walk_at "ws,k|h,hk"
 have : k.toNat < ws.length := by exact o36 h hk
 rw [List.getElem?_map, List.getD_eq_getElem?_getD, List.getElem?_eq_getElem this]; rfl
theorem ws_ok {ws : List (List Nat)} (h : ws.length = 5) (hw : ∀ a ∈ ws, wordOk a) {k : Int} (hk : 0 ≤ k ∧ k < 5) : wordOk (ws.getD k.toNat []) := by
 have : k.toNat < ws.length := by exact o36 h hk
 rw [List.getD_eq_getElem?_getD, List.getElem?_eq_getElem this]; exact hw _ (List.getElem_mem this)
theorem steps_body (p : DefParts) (hp : topDef 20 = some p) {fa : Addr} {n q : Str} {dv kv dc pm : Value} {an : Option Addr} {cd ct : Value} (L : Addr) (P : Prg s₀ mg mb) {rn : Nat} (r : Room A (rn + 2))
  {ws : List (List Nat)} {ns : List Int} (hws : ∀ a ∈ ws, wordOk a) (hl5 : ws.length = 5) (hns : ns.length ≤ 100) {Q : V → Hp → Prop} (h : Q (.lst ((stepsP ws ns).map fun t => .dct (kvI t))) H) :
  TS prog w s₀ A (callEnv (mkFd p n q dv kv dc pm an cd ct) L fa) p.body (fun f _ H1 => ∃ H2, (∀ a o, H2 a = some o → H1 a = some o) ∧ Q (retV f) H2) (Loc.ofArgs [(Str.ofString "words", .lst (ws.map Mine.S)), (Str.ofString "numbers", .lst (intsV ns))]) H := by
 walk_at "prog,w,s₀,H,A,mg,mb,p,fa,n,q,dv,kv,dc,pm,an,cd,ct,L,rn,ws,ns,Q|hp,P,r,hws,hl5,hns,h"
 simp only [Loc.ofArgs, List.foldl]
 have e := def_eq hp rfl
 have hb := congrArg DefParts.body e
 have hs := congrArg DefParts.scope e
 dsimp only at hb hs
 rw [hb]
 generalize henv : callEnv (mkFd p n q dv kv dc pm an cd ct) L fa = env
 obtain ⟨hE, hsc⟩ := env_of henv hs rfl rfl rfl rfl
 have k0 := held_of "words" hsc rfl
 have k1 := held_of "numbers" hsc rfl
 have k2 := held_of "steps" hsc rfl
 have k3 := held_of "x" hsc rfl
 have k4 := held_of "u" hsc rfl
 have k5 := held_of "v" hsc rfl
 have s0 := stored_of "steps" hsc rfl
 have s1 := stored_of "x" hsc rfl
 have s2 := stored_of "u" hsc rfl
 have s3 := stored_of "v" hsc rfl
 have g0 := kind_g "_levenshtein_distance" hsc rfl
 have hG := P.G
 have v0 := P.f6
 have q0 : KeepOk prog w s₀ (.raw _) := (by obtain ⟨p, _, h⟩ := P.d6; exact keep_at h)
 clear hsc henv hs hb e hp
 repeat' walk_at "go"
 refine TE.list ?_
 repeat' walk_at "go"
 refine TE.dict0 fun d0 h0 => ?_
 walk_at "d0|h0"
 repeat' walk_at "go"
 refine TE.dict0 fun d1 h1 => ?_
 walk_at "d1|h1"
 repeat' walk_at "go"
 refine TE.dict0 fun d2 h2 => ?_
 walk_at "d2|h2"
 repeat' walk_at "go"
 refine TE.dict0 fun d3 h3 => ?_
 walk_at "d3|h3"
 repeat' walk_at "go"
 refine TE.dict0 fun d4 h4 => ?_
 walk_at "d4|h4"
 repeat' walk_at "go"
 refine ⟨by simp [sizeLine_eq], fun L0 hL => ?_⟩
 walk_at "L0|hL"
 repeat' walk_at "go"
 obtain ⟨n10, h1⟩ := put_none h1
 obtain ⟨n21, h2⟩ := put_none h2
 obtain ⟨n20, h2⟩ := put_none h2
 obtain ⟨n32, h3⟩ := put_none h3
 obtain ⟨n31, h3⟩ := put_none h3
 obtain ⟨n30, h3⟩ := put_none h3
 obtain ⟨n43, h4⟩ := put_none h4
 obtain ⟨n42, h4⟩ := put_none h4
 obtain ⟨n41, h4⟩ := put_none h4
 obtain ⟨n40, h4⟩ := put_none h4
 obtain ⟨l4, hL⟩ := put_none hL
 obtain ⟨l3, hL⟩ := put_none hL
 obtain ⟨l2, hL⟩ := put_none hL
 obtain ⟨l1, hL⟩ := put_none hL
 obtain ⟨l0, hL⟩ := put_none hL
 have hf : ∀ d ∈ [d0, d1, d2, d3, d4], H d = none := by simp [h0, h1, h2, h3, h4]
 have hLf : H L0 = none := hL
 have nd : [d0, d1, d2, d3, d4].Nodup := by simp [n10.symm, n20.symm, n21.symm, n30.symm, n31.symm, n32.symm, n40.symm, n41.symm, n42.symm, n43.symm]
 have hLn : L0 ∉ [d0, d1, d2, d3, d4] := by simp [l0, l1, l2, l3, l4]
 have hst : DctsAt H ((((((H.put d0 (.dict [])).put d1 (.dict [])).put d2 (.dict [])).put d3 (.dict [])).put d4 (.dict [])).put L0 (.list [.ref d0, .ref d1, .ref d2, .ref d3, .ref d4])) L0 [d0, d1, d2, d3, d4] [[], [], [], [], []] := by
  refine ⟨by simp [Hp.put], rfl, fun i d t hd ht => ?_, fun a o e => ?_⟩
  ·have ht : t = [] := by have := List.mem_of_getElem? ht; simpa using this
   subst ht
   have := List.mem_of_getElem? hd
   simp only [List.mem_cons, List.not_mem_nil, or_false] at this
   rcases this with rfl | rfl | rfl | rfl | rfl <;> simp [Hp.put, *, Ne.symm, kvM] <;> simp [Ne.symm, *]
  ·have hne : ∀ b, H b = none → a ≠ b := fun b hb q => by rw [← q, e] at hb; cases hb
   simp only [Hp.put, if_neg (hne _ h0), if_neg (hne _ h1), if_neg (hne _ h2), if_neg (hne _ h3), if_neg (hne _ h4), if_neg (hne _ hL)]
   exact e
 generalize (((((H.put d0 (.dict [])).put d1 (.dict [])).put d2 (.dict [])).put d3 (.dict [])).put d4 (.dict [])).put L0 (.list [.ref d0, .ref d1, .ref d2, .ref d3, .ref d4]) = H1 at *
 generalize hds : [d0, d1, d2, d3, d4] = ds at *
 have hdl : ds.length = 5 := by rw [← hds]; rfl
 clear hds n10 n21 n20 n32 n31 n30 n43 n42 n41 n40 l4 l3 l2 l1 l0 hL h0 h1 h2 h3 h4
 refine T1.fors ?_
 repeat' walk_at "go"
 refine ⟨_, OpIt.lst r.h, fun i m' H' => DctsAt H H' L0 ds ((ns.take i).foldl (oneStep ws) [[], [], [], [], []]) ∧ (∀ t ∈ (ns.take i).foldl (oneStep ws) [[], [], [], [], []], t.length ≤ i) ∧
  Has m' [(Str.ofString "words", .lst (ws.map Mine.S)), (Str.ofString "steps", .ref L0)], ⟨hst, by simp, by walk_at "has"⟩, ?_, ?_⟩
 ·rintro i x m' H' hx ⟨hd, hsz, hm⟩
  walk_at "i,x,m',H'|hx,hd,hsz,hm"
  obtain ⟨z, hz, rfl⟩ : ∃ z, ns[i]? = some z ∧ V.int z = x := by
   rw [intsV, List.getElem?_map] at hx
   cases e : ns[i]? with
   | none => rw [e] at hx; cases hx
   | some z => rw [e] at hx; cases hx; exact ⟨z, rfl, rfl⟩
  walk_at "z|hz,hx"
  have hi := (List.getElem?_eq_some_iff.mp hz).1
  have hfold : (ns.take (i + 1)).foldl (oneStep ws) [[], [], [], [], []] = oneStep ws ((ns.take i).foldl (oneStep ws) [[], [], [], [], []]) z := by rw [List.take_add_one, hz, List.foldl_append]; rfl
  simp only [hfold]
  generalize (ns.take i).foldl (oneStep ws) [[], [], [], [], []] = ts at *
  have hu := fmod5 z
  have hv := fmod5 (z.fmod 5 + 1 + (z.fdiv 5).fmod 4)
  refine TA.has hm ?_
  simp only [Loc.ofArgs, List.foldl]
  refine TA.name hE s1 ?_
  repeat' walk_at "go"
  refine Op2.tail_lst (fun _ _ => ⟨_, rfl⟩) (Op2.item_lst (v := Mine.S (ws.getD (stU z).toNat [])) hu.1 (by exact o0 hu) ?_ ?_)
  ·exact ws_get hl5 hu
  repeat' walk_at "go"
  refine Op2.tail_lst (fun _ _ => ⟨_, rfl⟩) (Op2.item_lst (v := Mine.S (ws.getD (stV z).toNat [])) hv.1 (by exact o0 hv) ?_ ?_)
  ·exact ws_get hl5 hv
  repeat' walk_at "go"
  refine tc_lev P r (ws_ok hl5 hws hu) (ws_ok hl5 hws hv) ?_
  repeat' walk_at "go"
  obtain ⟨d, t, hdd, htt⟩ : ∃ d t, ds[(stU z).toNat]? = some d ∧ ts[(stU z).toNat]? = some t := ⟨_, _, List.getElem?_eq_getElem (by rw [hdl]; unfold stU; exact o17 hu), List.getElem?_eq_getElem (by rw [hd.n]; unfold stU; exact o17 hu)⟩
  refine Op2.tail_list (fun _ _ => ⟨_, rfl⟩) hd.l (Op2.item_list (v := .ref d) hd.l hu.1 (by exact o0 hu) (by rw [List.getElem?_map]; show (ds[(stU z).toNat]?).map _ = _; rw [hdd]; rfl) ?_)
  repeat' walk_at "go"
  refine OpU.setItem_dict (hd.d _ _ _ hdd htt) (by have := hsz t (List.mem_of_getElem? htt); rw [sizeLine_eq]; simp only [kvM, List.length_map]; exact o83 hns hi this) ?_
  repeat' walk_at "go"
  have hs := hd.set nd hLn hf hLf hdd htt (c := stV z) (e := stC ws z)
  rw [show kvI (gput t (stV z) (stC ws z)) = _ from (kvM_put V.int t _ _).symm] at hs
  have hone : oneStep ws ts z = ts.set (stU z).toNat (gput t (stV z) (stC ws z)) := by
   have : ts.getD (stU z).toNat [] = t := by rw [List.getD_eq_getElem?_getD, htt]; rfl
   unfold oneStep; rw [this]
  rw [hone]
  refine ⟨hs, fun t' ht' => ?_, by walk_at "has"⟩
  rcases List.mem_or_eq_of_mem_set ht' with h1 | rfl
  ·exact Nat.le_succ_of_le (hsz t' h1)
  ·exact Nat.le_trans (gput_len ..) (Nat.succ_le_succ (hsz t (List.mem_of_getElem? htt)))
 ·rintro m' H' ⟨hd, _, hm⟩
  walk_at "m',H'|hd,hm"
  show TS prog w s₀ A env _ _ m' _
  rw [List.take_of_length_le (by simp [intsV])] at hd
  change DctsAt H H' L0 ds (stepsP ws ns) at hd
  obtain ⟨H2, v, hL2, hk⟩ := View.list_dcts (prog := prog) (w := w) (s₀ := s₀) ds ((stepsP ws ns).map kvI) [] H' hd.l nd hLn (by rw [List.length_map, hdl, hd.n]) (fun i d t e1 e2 => by
   rw [List.getElem?_map] at e2
   cases e3 : (stepsP ws ns)[i]? with
   | none => rw [e3] at e2; cases e2
   | some u => rw [e3] at e2; cases e2; exact hd.d i d u e1 e3)
  walk_at "H2|v,hL2,hk"
  refine TS.seen v ?_
  refine TS.has hm ?_
  simp only [Loc.ofArgs, List.foldl]
  refine TS.view (x := Str.ofString "steps") (by walk_at "look") k2 (Turn.list hL2) ?_
  repeat' walk_at "go"
  refine ⟨H, fun a o e => ?_, ?_⟩
  ·have h1 : a ≠ L0 := fun q => by rw [q, hLf] at e; cases e
   have h2 := hk a o h1 (fun q => by rw [hf a q] at e; cases e) (hd.k a o e)
   unfold Hp.del; rw [if_neg h1]; exact h2
  ·simpa [Function.comp_def] using h
theorem tc_steps {n : Nat} (P : Prg s₀ mg mb) (r : Room A (n + 3)) {ws : List (List Nat)} {ns : List Int} (hws : ∀ a ∈ ws, wordOk a) (hl5 : ws.length = 5) (hns : ns.length ≤ 100) {Q : V → Hp → Prop} (h : Q (.lst ((stepsP ws ns).map fun t => .dct (kvI t))) H) :
  TC prog w s₀ A (.raw (.ref 197)) [.lst (ws.map Mine.S), .lst (intsV ns)] Q H := by
 obtain ⟨p, hp, hat⟩ := P.d20
 refine (TCd.drop ?_).tc
 have e := def_eq hp rfl
 have hpar := congrArg DefParts.params e
 have hs := congrArg DefParts.scope e
 dsimp only at hs hpar
 refine TCd.at (names := [Str.ofString "words", Str.ofString "numbers"]) hat r.lt (by rw [hs]; rfl) rfl (fun n q kv dc pm an cd ct xs hx => ?_) (by rw [hs]; rfl) (fun n q kv dc pm an cd ct L => ?_)
 ·obtain ⟨x0, x1, rfl⟩ := Mine.len2 hx; unfold mkFd; rw [hpar]; rfl
 exact steps_body p hp L P (r.deeper _) hws hl5 hns h
/-! the ways -/
noncomputable abbrev Way := List Int × Int
noncomputable def endOf (p : Way) : Int := p.1.getLastD 0
noncomputable def tabAt (T : List Tab) (u : Int) : Tab := T.getD u.toNat []
noncomputable def ext1 (p : Way) (e : Int × Int) : List Way := if p.1.any (· == e.1) then [] else [(p.1 ++ [e.1], p.2 + e.2)]
noncomputable def ext (T : List Tab) (p : Way) : List Way := (tabAt T (endOf p)).flatMap (ext1 p)
structure TOk (T : List Tab) : Prop where
 len : T.length = 5
 nd : ∀ t ∈ T, (t.map (·.1)).Nodup
 rg : ∀ t ∈ T, ∀ p ∈ t, 0 ≤ p.1 ∧ p.1 < 5
structure WayOk (p : Way) : Prop where
 ne : p.1 ≠ []
 nd : p.1.Nodup
 rg : ∀ v ∈ p.1, 0 ≤ v ∧ v < 5
theorem nodup_le {α : Type} [DecidableEq α] : ∀ {l r : List α}, l.Nodup → (∀ a ∈ l, a ∈ r) → l.length ≤ r.length
 | [], r, _, _ => Nat.zero_le _
 | a :: l, r, nd, h => by
  have ha := h a (by simp)
  obtain ⟨n1, n2⟩ := List.nodup_cons.mp nd
  have := nodup_le (l := l) (r := r.erase a) n2 (fun b hb => (List.mem_erase_of_ne (fun q : b = a => n1 (q ▸ hb))).mpr (h b (by simp [hb])))
  rw [List.length_erase_of_mem ha] at this
  have hp := List.length_pos_of_mem ha
  simp only [List.length_cons]; exact o84 this hp
theorem five {l : List Int} (nd : l.Nodup) (h : ∀ v ∈ l, 0 ≤ v ∧ v < 5) : l.length ≤ 5 := by
 have := nodup_le (r := [0, 1, 2, 3, 4]) nd (fun v hv => by have := h v hv; simp; exact o85 this)
 exact this
theorem tabAt_mem {T : List Tab} (h : TOk T) {u : Int} (hu : 0 ≤ u ∧ u < 5) : tabAt T u ∈ T := by
 have : u.toNat < T.length := by rw [h.len]; exact o17 hu
 rw [tabAt, List.getD_eq_getElem?_getD, List.getElem?_eq_getElem this]; exact List.getElem_mem this
theorem tabAt_get {T : List Tab} (h : TOk T) {u : Int} (hu : 0 ≤ u ∧ u < 5) : T[u.toNat]? = some (tabAt T u) := by
 have : u.toNat < T.length := by rw [h.len]; exact o17 hu
 rw [tabAt, List.getD_eq_getElem?_getD, List.getElem?_eq_getElem this]; rfl
theorem WayOk.end_mem {p : Way} (h : WayOk p) : endOf p ∈ p.1 := by
 unfold endOf
 rw [List.getLastD_eq_getLast?, List.getLast?_eq_some_getLast h.ne]
 exact List.getLast_mem h.ne
theorem WayOk.endRg {p : Way} (h : WayOk p) : 0 ≤ endOf p ∧ endOf p < 5 := h.rg _ h.end_mem
set_option tactic.hygienic true in
theorem WayOk.ext {T : List Tab} (hT : TOk T) {p : Way} (h : WayOk p) : ∀ q ∈ ext T p, WayOk q ∧ q.1.length = p.1.length + 1 := by
 walk_at "T,p|hT,h"
 intro q hq
 walk_at "q|hq"
 obtain ⟨e, he, hq⟩ := List.mem_flatMap.mp hq
 walk_at "e|he,hq"
 unfold ext1 at hq
 split at hq
 ·cases hq
 ·rename_i hn
  cases List.mem_singleton.mp hq
  have hr := hT.rg _ (tabAt_mem hT h.endRg) e he
  refine ⟨⟨by simp, ?_, fun v hv => ?_⟩, by simp⟩
  ·rw [List.nodup_append]
   refine ⟨h.nd, by simp, fun a ha b hb => ?_⟩
   cases List.mem_singleton.mp hb
   rintro rfl
   exact hn (by simp [ha])
  ·rcases List.mem_append.mp hv with h1 | h1
   ·exact h.rg v h1
   ·cases List.mem_singleton.mp h1; exact hr
noncomputable def wt (p : Way) : Nat := 6 ^ (5 - p.1.length)
theorem sum_same {l : List Way} {c : Nat} (h : ∀ q ∈ l, wt q = c) : (l.map wt).sum = l.length * c := by
 induction l with
 | nil => simp
 | cons q l ih => rw [List.map_cons, List.sum_cons, ih (fun q hq => h q (by simp [hq])), h q (by simp), List.length_cons, Nat.succ_mul, Nat.add_comm]
theorem flat_len {α β : Type} {l : List α} {f : α → List β} (h : ∀ a ∈ l, (f a).length ≤ 1) : (l.flatMap f).length ≤ l.length := by
 induction l with
 | nil => simp
 | cons a l ih => rw [List.flatMap_cons, List.length_append, List.length_cons]; have := h a (by simp); have := ih (fun b hb => h b (by simp [hb])); exact o335 (by assumption) this
theorem ext_wt {T : List Tab} (hT : TOk T) {p : Way} (h : WayOk p) : ((ext T p).map wt).sum + 1 ≤ wt p := by
 walk_at "T,p|hT,h"
 have h1 : ∀ q ∈ Mine.ext T p, wt q = 6 ^ (4 - p.1.length) := fun q hq => by unfold wt; rw [(h.ext hT q hq).2]; congr 1; exact o86
 rw [sum_same h1]
 have h5 := five h.nd h.rg
 by_cases hl : p.1.length = 5
 ·have : Mine.ext T p = [] := by
   cases e : Mine.ext T p with
   | nil => rfl
   | cons q r =>
    have := h.ext hT q (by rw [e]; simp)
    have h6 := five this.1.nd this.1.rg
    exact o87 hl this h6
  rw [this]; simp [wt, hl]
 ·have hn : (Mine.ext T p).length ≤ 5 := by
   have ht := tabAt_mem hT h.endRg
   refine Nat.le_trans (flat_len fun e _ => by unfold ext1; split <;> simp) ?_
   have := five (hT.nd _ ht) (fun v hv => by obtain ⟨e, he, rfl⟩ := List.mem_map.mp hv; exact hT.rg _ ht e he)
   simpa using this
  unfold wt
  rw [show 5 - p.1.length = (4 - p.1.length) + 1 from by exact o88 h5 hl, Nat.pow_succ]
  have := Nat.pow_pos (n := 4 - p.1.length) (show 0 < 6 by decide)
  have := Nat.mul_le_mul_right (6 ^ (4 - p.1.length)) hn
  exact o336 (by assumption) this
theorem wt_pos (p : Way) : 1 ≤ wt p := Nat.pow_pos (by decide)
theorem wt_len (l : List Way) : l.length ≤ (l.map wt).sum := by
 induction l with
 | nil => simp
 | cons q l ih => rw [List.map_cons, List.sum_cons, List.length_cons]; have := wt_pos q; exact o89 ih this
theorem gget_mem {α : Type} {t : List (Int × α)} (nd : (t.map (·.1)).Nodup) {e : Int × α} (h : e ∈ t) : gget t e.1 = some e.2 := by
 induction t with
 | nil => cases h
 | cons p t ih =>
  unfold gget at ih ⊢
  rw [List.find?_cons]
  rw [List.map_cons, List.nodup_cons] at nd
  rcases List.mem_cons.mp h with rfl | h
  ·simp
  ·have : ¬ p.1 = e.1 := fun q => nd.1 (q ▸ List.mem_map_of_mem h)
   rw [decide_eq_false this]
   exact ih nd.2 h
noncomputable def wayV (p : Way) : V := .tup [.lst (intsV p.1), .int p.2]
theorem ways_body (p : DefParts) (hp : topDef 21 = some p) {fa : Addr} {n q : Str} {dv kv dc pm : Value} {an : Option Addr} {cd ct : Value} (L : Addr) (P : Prg s₀ mg mb) {rn : Nat} (r : Room A rn)
  {T : List Tab} (hT : TOk T) {Q : V → Hp → Prop} (h : ∀ F : List Way, F = ([0], 0) :: F.flatMap (ext T) → (∀ p ∈ F, WayOk p) → F.length ≤ 1296 → Q (.lst (F.map wayV)) H) :
  TS prog w s₀ A (callEnv (mkFd p n q dv kv dc pm an cd ct) L fa) p.body (fun f _ H1 => ∃ H2, (∀ a o, H2 a = some o → H1 a = some o) ∧ Q (retV f) H2) (Loc.ofArgs [(Str.ofString "steps", .lst (T.map fun t => .dct (kvI t)))]) H := by
 walk_at "prog,w,s₀,H,A,mg,mb,p,fa,n,q,dv,kv,dc,pm,an,cd,ct,L,rn,T,Q|hp,P,r,hT,h"
 simp only [Loc.ofArgs, List.foldl]
 have e := def_eq hp rfl
 have hb := congrArg DefParts.body e
 have hs := congrArg DefParts.scope e
 dsimp only at hb hs
 rw [hb]
 generalize henv : callEnv (mkFd p n q dv kv dc pm an cd ct) L fa = env
 obtain ⟨hE, hsc⟩ := env_of henv hs rfl rfl rfl rfl
 have k0 := held_of "steps" hsc rfl
 have k1 := held_of "ways" hsc rfl
 have k2 := held_of "k" hsc rfl
 have k3 := held_of "way" hsc rfl
 have k4 := held_of "far" hsc rfl
 have k5 := held_of "v" hsc rfl
 have s0 := stored_of "ways" hsc rfl
 have s1 := stored_of "k" hsc rfl
 have s2 := stored_of "way" hsc rfl
 have s3 := stored_of "far" hsc rfl
 have s4 := stored_of "v" hsc rfl
 have g0 := kind_g "len" hsc rfl
 have hG := P.G
 have v0 := P.nlen
 have b0 := boot_len
 have q0 : KeepOk prog w s₀ (.raw (.builtin "len")) := keep_bi _
 clear hsc henv hs hb e hp
 have hu := r.units
 have ka : KeepOk prog w s₀ (.raw (.builtin "list.append")) := keep_bi _
 repeat' walk_at "go"
 refine TE.list ?_
 repeat' walk_at "go"
 refine TE.listZ ?_
 repeat' walk_at "go"
 refine ⟨by simp [sizeLine_eq], ?_⟩
 repeat' walk_at "go"
 refine ⟨by simp [sizeLine_eq], ?_⟩
 repeat' walk_at "go"
 refine ⟨by simp [sizeLine_eq], fun a ha => ?_⟩
 walk_at "a|ha"
 repeat' walk_at "go"
 refine T1.whiles (I := fun n m' H' => ∃ (ws : List Way) (k : Nat), n = ((ws.drop k).map wt).sum ∧ k ≤ ws.length ∧ k + n ≤ 1296 ∧ ws = ([0], 0) :: (ws.take k).flatMap (ext T) ∧ (∀ p ∈ ws, WayOk p) ∧ H' = H.put a (.list (ws.map wayV)) ∧
  Has m' [(Str.ofString "steps", .lst (T.map fun t => .dct (kvI t))), (Str.ofString "ways", .ref a), (Str.ofString "k", .int k)]) ?_ 1296 ⟨[([0], 0)], 0, by decide, by simp, by simp, rfl, ?_, rfl, by walk_at "has"⟩
 ·rintro n m' _ ⟨ws, k, rfl, hk, hn, hws, hok, rfl, hm⟩
  walk_at "n,m',ws,k|hk,hn,hws,hok,hm"
  have hlen : ws.length ≤ 1296 := by have := wt_len (ws.drop k); rw [List.length_drop] at this; exact o90 hn this
  have ha' : (H.put a (.list (ws.map wayV))) a = some (.list (ws.map wayV)) := by simp [Hp.put]
  refine TB.has hm ?_
  simp only [Loc.ofArgs, List.foldl]
  repeat' walk_at "go"
  refine TC.len_list ha' (by rw [List.length_map]; exact o91 hlen) ?_
  repeat' walk_at "go"
  by_cases hlt : k < ws.length
  ·rw [if_pos (by simpa using hlt)]
   obtain ⟨pw, hget⟩ : ∃ x, ws[k]? = some x := ⟨_, List.getElem?_eq_getElem hlt⟩
   walk_at "pw|hget"
   have hpw : ws[k] = pw := Option.some.inj ((List.getElem?_eq_getElem hlt).symm.trans hget)
   have hp := hok pw (List.mem_of_getElem? hget)
   have hr := hp.endRg
   have htm := tabAt_mem hT hr
   generalize htt : tabAt T (endOf pw) = tt at *
   have hl5 := five hp.nd hp.rg
   have hTg : (T.map fun t => V.dct (kvI t))[(endOf pw).toNat]? = some (.dct (kvI tt)) := by rw [List.getElem?_map, tabAt_get hT hr, htt]; rfl
   have hlast : (intsV pw.1)[(-1 + (intsV pw.1).length : Int).toNat]? = some (.int (endOf pw)) := by
    have e1 : (intsV pw.1).length = pw.1.length := by simp [intsV]
    have e2 := List.length_pos_iff.mpr hp.ne
    rw [e1, show ((-1 : Int) + (pw.1.length : Int)).toNat = pw.1.length - 1 from by exact o22, intsV, List.getElem?_map, ← List.getLast?_eq_getElem?, List.getLast?_eq_some_getLast hp.ne]
    simp [endOf, List.getLastD_eq_getLast?, List.getLast?_eq_some_getLast hp.ne]
   have hlp : (1 : Int) ≤ (intsV pw.1).length := by have e2 := List.length_pos_iff.mpr hp.ne; simp only [intsV, List.length_map]; exact o37 e2
   refine TS.cons (T1.assign_tuple ?_)
   repeat' walk_at "go"
   refine Op2.tail_list (fun _ _ => ⟨_, rfl⟩) ha' (Op2.item_list (v := wayV pw) ha' (by exact o1) (by exact o92 hn) (by rw [Int.toNat_natCast, List.getElem?_map, hget]; rfl) ?_)
   refine TA.tup r.h rfl ?_
   refine TA.name hE s2 (TA.name hE s3 ?_)
   show TS prog w s₀ A env _ _ _ _
   refine TS.cons ?_
   have hbt := ext_wt hT hp
   refine T1.mono (Q := fun f m' H' => f = .next ∧ H' = H.put a (.list ((ws ++ ext T pw).map wayV)) ∧ Has m' [(Str.ofString "steps", .lst (T.map fun t => .dct (kvI t))), (Str.ofString "ways", .ref a), (Str.ofString "k", .int k)]) ?_ ?_
   ·refine T1.fors ?_
    repeat' walk_at "go"
    refine Op2.tail_lst (fun _ _ => ⟨_, rfl⟩) (Op2.item_lst_neg (v := .int (endOf pw)) (by exact o3) (by exact o8 hlp) (by exact o4) hlast ?_)
    repeat' walk_at "go"
    refine Op2.tail_lst (fun _ _ => ⟨_, rfl⟩) (Op2.item_lst (v := .dct (kvI tt)) hr.1 (by exact o0 hr) hTg ?_)
    refine ⟨_, OpIt.dct r.h, fun j m' H' => H' = H.put a (.list ((ws ++ (tt.take j).flatMap (ext1 pw)).map wayV)) ∧ Has m' [(Str.ofString "steps", .lst (T.map fun t => .dct (kvI t))), (Str.ofString "ways", .ref a), (Str.ofString "k", .int k), (Str.ofString "way", .lst (intsV pw.1)), (Str.ofString "far", .int pw.2)], ⟨by simp, by walk_at "has"⟩, ?_, ?_⟩
    ·rintro j x m' _ hx ⟨rfl, hm⟩
     walk_at "j,x,m'|hx,hm"
     obtain ⟨e, he, rfl⟩ : ∃ e, tt[j]? = some e ∧ V.int e.1 = x := by
      simp only [kvI, kvM, List.map_map, List.getElem?_map, Function.comp_def] at hx
      cases e : tt[j]? with
      | none => rw [e] at hx; cases hx
      | some e' => rw [e] at hx; cases hx; exact ⟨e', rfl, rfl⟩
     walk_at "e|he,hx"
     have hem := List.mem_of_getElem? he
     have htake : (tt.take (j + 1)).flatMap (ext1 pw) = (tt.take j).flatMap (ext1 pw) ++ ext1 pw e := by rw [List.take_add_one, he]; simp
     have hsz : (ws ++ (tt.take j).flatMap (ext1 pw)).length ≤ 1301 := by
      have h1 := flat_len (l := tt.take j) (f := ext1 pw) (fun e _ => by unfold ext1; split <;> simp)
      have h2 : tt.length ≤ 5 := by
       have := five (hT.nd _ htm) (fun v hv => by obtain ⟨e, he, rfl⟩ := List.mem_map.mp hv; exact hT.rg _ htm e he)
       simpa using this
      rw [List.length_append]
      rw [List.length_take] at h1
      exact o93 hlen h1 h2
     simp only [htake]
     rw [← List.append_assoc]
     generalize ws ++ (tt.take j).flatMap (ext1 pw) = wk at *
     have hk' : (H.put a (.list (wk.map wayV))) a = some (.list (wk.map wayV)) := by simp [Hp.put]
     refine TA.has hm ?_
     simp only [Loc.ofArgs, List.foldl]
     refine TA.name hE s4 ?_
     repeat' walk_at "go"
     refine Op2.notin_lst ?_
     repeat' walk_at "go"
     by_cases hin : (pw.1.any (· == e.1)) = true
     ·rw [if_neg (by simp [hin])]
      repeat' walk_at "go"
      refine ⟨by simp [ext1, hin], by walk_at "has"⟩
     ·rw [Bool.not_eq_true] at hin
      rw [if_pos (by simp [hin])]
      repeat' walk_at "go"
      refine OpM.list hk' slot_list_append (by rfl) ?_
      repeat' walk_at "go"
      refine TE.listZ ?_
      repeat' walk_at "go"
      refine ⟨by simp [sizeLine_eq], ?_⟩
      refine Op2.cat (by simp [sizeLine_eq, intsV]; exact o94 hl5) ?_
      repeat' walk_at "go"
      refine Op2.tail_lst (fun _ _ => ⟨_, rfl⟩) (Op2.item_lst_neg (v := .int (endOf pw)) (by exact o3) (by exact o8 hlp) (by exact o4) hlast ?_)
      repeat' walk_at "go"
      refine Op2.tail_lst (fun _ _ => ⟨_, rfl⟩) (Op2.item_lst (v := .dct (kvI tt)) hr.1 (by exact o0 hr) hTg ?_)
      repeat' walk_at "go"
      refine Op2.tail_dct (fun _ _ => ⟨_, rfl⟩) (Op2.item_dct (v := .int e.2) (by rw [kvM_get, gget_mem (hT.nd _ htm) hem]; rfl) ?_)
      repeat' walk_at "go"
      refine ⟨by simp [sizeLine_eq], ?_⟩
      repeat' walk_at "go"
      refine TC.append hk' (by rw [List.length_map, sizeLine_eq]; exact o95 hsz) ?_
      rw [Hp.put_put]
      repeat' walk_at "go"
      refine ⟨?_, by walk_at "has"⟩
      simp [ext1, hin, wayV, intsV]
    ·rintro m' _ ⟨rfl, hm⟩
     walk_at "m'|hm"
     refine ⟨rfl, ?_, ?_⟩
     ·rw [List.take_of_length_le (by simp [kvM])]
      unfold ext; rw [htt]
     ·intro p hp
      simp only [List.mem_cons, List.not_mem_nil, or_false] at hp
      rcases hp with rfl | rfl | rfl <;> exact hm _ (by simp)
   rintro _ m' _ ⟨rfl, rfl, hm⟩
   walk_at "m'|hm"
   show TS prog w s₀ A env _ _ m' _
   refine TS.has hm ?_
   simp only [Loc.ofArgs, List.foldl]
   repeat' walk_at "go"
   have hdr : (ws ++ ext T pw).drop (k + 1) = ws.drop (k + 1) ++ ext T pw := List.drop_append_of_le_length hlt
   have hsum : ((ws.drop k).map wt).sum = wt pw + ((ws.drop (k + 1)).map wt).sum := by rw [List.drop_eq_getElem_cons hlt, List.map_cons, List.sum_cons, hpw]
   refine ⟨_, ?_, ws ++ ext T pw, k + 1, rfl, by rw [List.length_append]; omega, ?_, ?_, ?_, rfl, by walk_at "has"⟩
   ·rw [hdr, hsum, List.map_append, List.sum_append]; exact o96 hbt
   ·rw [hdr, List.map_append, List.sum_append]; exact o97 hn hbt hsum
   ·rw [List.take_append_of_le_length hlt, List.take_add_one, hget]
    simp only [Option.toList, List.flatMap_append, List.flatMap_cons, List.flatMap_nil, List.append_nil]
    rw [← List.cons_append, ← hws]
   ·intro p hp'
    rcases List.mem_append.mp hp' with h1 | h1
    ·exact hok p h1
    ·exact (hp.ext hT p h1).1
  ·rw [if_neg (by simpa using hlt)]
   show TS prog w s₀ A env _ _ _ _
   refine TS.view (x := Str.ofString "ways") (by walk_at "look") k1 (Turn.list ha') ?_
   repeat' walk_at "go"
   refine ⟨H, fun b o e => ?_, ?_⟩
   ·have hne : b ≠ a := fun q => by rw [q, ha] at e; cases e
    unfold Hp.del Hp.put; rw [if_neg hne, if_neg hne]; exact e
   ·rw [List.take_of_length_le (by exact o5 hlt)] at hws
    exact h ws hws hok hlen
 ·intro p hp
  cases List.mem_singleton.mp hp
  exact ⟨by simp, by simp, by simp⟩
theorem tc_ways {n : Nat} (P : Prg s₀ mg mb) (r : Room A (n + 1)) {T : List Tab} (hT : TOk T) {Q : V → Hp → Prop} (h : ∀ F : List Way, F = ([0], 0) :: F.flatMap (ext T) → (∀ p ∈ F, WayOk p) → F.length ≤ 1296 → Q (.lst (F.map wayV)) H) :
  TC prog w s₀ A (.raw (.ref 204)) [.lst (T.map fun t => .dct (kvI t))] Q H := by
 obtain ⟨p, hp, hat⟩ := P.d21
 refine (TCd.drop ?_).tc
 have e := def_eq hp rfl
 have hpar := congrArg DefParts.params e
 have hs := congrArg DefParts.scope e
 dsimp only at hs hpar
 refine TCd.at (names := [Str.ofString "steps"]) hat r.lt (by rw [hs]; rfl) rfl (fun n q kv dc pm an cd ct xs hx => ?_) (by rw [hs]; rfl) (fun n q kv dc pm an cd ct L => ?_)
 ·obtain ⟨x0, rfl⟩ := Mine.len1 hx; unfold mkFd; rw [hpar]; rfl
 exact ways_body p hp L P (r.deeper _) hT h
section
/-! what the law builds -/
noncomputable def wAt (W : List (List Nat)) (u : Int) : List Nat := W.getD u.toNat []
noncomputable def nAt (nr : List Int) (u : Int) : Int := nr.getD u.toNat 0
noncomputable def nearP (W : List (List Nat)) (mo : Int) : List Int := W.map fun a => min (lev a (W.getD 4 []) mo) (mo + 1)
structure Gm (W : List (List Nat)) (T : List Tab) (nr : List Int) : Prop where
 ok : TOk T
 loop : ∀ u v c, 0 ≤ u → u < 5 → (v, c) ∈ tabAt T u → v ≠ u
 pos : ∀ u v c, 0 ≤ u → u < 5 → (v, c) ∈ tabAt T u → 0 ≤ c ∧ (c = 0 → wAt W u = wAt W v)
 cons : ∀ u v c, 0 ≤ u → u < 5 → (v, c) ∈ tabAt T u → nAt nr u ≤ c + nAt nr v
set_option tactic.hygienic true in
theorem gput_mem {α : Type} {t : List (Int × α)} {k : Int} {c : α} {e : Int × α} (h : e ∈ gput t k c) : e ∈ t ∨ e = (k, c) := by
 unfold gput at h
 split at h
 ·obtain ⟨x, hx, rfl⟩ := List.mem_map.mp h
  split
  ·rename_i q; exact .inr (by rw [q])
  ·exact .inl hx
 ·rcases List.mem_append.mp h with h | h
  ·exact .inl h
  ·exact .inr (List.mem_singleton.mp h)
set_option tactic.hygienic true in
theorem gput_nd {α : Type} {t : List (Int × α)} (k : Int) (c : α) (nd : (t.map (·.1)).Nodup) : ((gput t k c).map (·.1)).Nodup := by
 unfold gput
 split
 ·have e : (t.map fun kv => if kv.1 = k then (kv.1, c) else kv).map (·.1) = t.map (·.1) := by
   rw [List.map_map]
   refine List.map_congr_left fun x _ => ?_
   simp only [Function.comp_apply]
   split <;> rfl
  rw [e]; exact nd
 ·rename_i hn
  rw [List.map_append, List.nodup_append]
  refine ⟨nd, by simp, fun a ha b hb => ?_⟩
  simp only [List.map_cons, List.map_nil, List.mem_singleton] at hb
  subst hb
  rintro rfl
  obtain ⟨x, hx, rfl⟩ := List.mem_map.mp ha
  refine hn ?_
  unfold ghas gget
  have : (t.find? fun kv => decide (kv.1 = x.1)).isSome = true := List.find?_isSome.mpr ⟨x, hx, by simp⟩
  rw [Option.isSome_map]; exact this
structure StepOk (W : List (List Nat)) (u : Int) (e : Int × Int) : Prop where
 rg : 0 ≤ e.1 ∧ e.1 < 5
 ne : e.1 ≠ u
 co : lev (wAt W u) (wAt W e.1) 6 ≤ e.2
theorem stV_ok (x : Int) : 0 ≤ stU x ∧ stU x < 5 ∧ 0 ≤ stV x ∧ stV x < 5 ∧ stV x ≠ stU x := by
 have h1 := fmod5 x
 have h2 := fmod5 (x.fmod 5 + 1 + (x.fdiv 5).fmod 4)
 have h3 := fmod4 (x.fdiv 5)
 refine ⟨h1.1, h1.2, h2.1, h2.2, ?_⟩
 unfold stV stU
 generalize (x.fdiv 5).fmod 4 = a at *
 generalize x.fmod 5 = b at *
 rw [Int.fmod_eq_emod_of_nonneg _ (by decide)]
 exact o288 h3
theorem steps_ok (W : List (List Nat)) (ns : List Int) : (stepsP W ns).length = 5 ∧ ∀ (i : Nat) t, (stepsP W ns)[i]? = some t → (t.map (·.1)).Nodup ∧ ∀ e ∈ t, StepOk W i e := by
 walk_at "W,ns|"
 unfold stepsP
 suffices h : ∀ (ns : List Int) (T : List Tab), (T.length = 5 ∧ ∀ (i : Nat) t, T[i]? = some t → (t.map (·.1)).Nodup ∧ ∀ e ∈ t, StepOk W i e) →
   ((ns.foldl (oneStep W) T).length = 5 ∧ ∀ (i : Nat) t, (ns.foldl (oneStep W) T)[i]? = some t → (t.map (·.1)).Nodup ∧ ∀ e ∈ t, StepOk W i e) by
  refine h ns _ ⟨rfl, fun i t ht => ?_⟩
  have := List.mem_of_getElem? ht
  simp only [List.mem_cons, List.not_mem_nil, or_false, or_self] at this
  subst this
  exact ⟨by simp, by simp⟩
 intro ns
 walk_at "ns|"
 induction ns with
 | nil => exact fun T h => h
 | cons x ns ih =>
  walk_at "x,ns|ih"
  intro T h
  walk_at "T|h"
  rw [List.foldl_cons]
  refine ih _ ⟨by rw [oneStep_len]; exact h.1, fun i t ht => ?_⟩
  walk_at "i,t|ht"
  unfold oneStep at ht
  obtain ⟨h1, h2, h3, h4, h5⟩ := stV_ok x
  by_cases hi : (stU x).toNat = i
  ·subst hi
   have hlt : (stU x).toNat < T.length := by rw [h.1]; exact o289 h2
   rw [List.getElem?_set_self hlt] at ht
   cases ht
   rw [List.getD_eq_getElem?_getD, List.getElem?_eq_getElem hlt]
   obtain ⟨g1, g2⟩ := h.2 _ _ (List.getElem?_eq_getElem hlt)
   refine ⟨gput_nd _ _ g1, fun e he => ?_⟩
   walk_at "e|he"
   rcases gput_mem he with he | rfl
   ·exact g2 e he
   ·refine ⟨⟨h3, h4⟩, by rw [Int.toNat_of_nonneg h1]; exact h5, ?_⟩
    have := Int.fmod_nonneg_of_pos (x.fdiv 20) (show (0 : Int) < 3 by decide)
    unfold wAt
    rw [show ((((stU x).toNat : Nat) : Int)).toNat = (stU x).toNat by exact o290]
    unfold stC
    show lev _ (W.getD (stV x).toNat []) 6 ≤ _
    omega
  ·rw [List.getElem?_set_ne hi] at ht
   exact h.2 i t ht
theorem Gm.of {W : List (List Nat)} {ns : List Int} {mo : Int} (hl : W.length = 5) (hw : ∀ a ∈ W, wordOk a) (h0 : 0 ≤ mo) (h8 : mo < 8) : Gm W (stepsP W ns) (nearP W mo) := by
 walk_at "W,ns,mo|hl,hw,h0,h8"
 obtain ⟨s1, s2⟩ := steps_ok W ns
 have ok : TOk (stepsP W ns) := ⟨s1, fun t ht => by
  obtain ⟨i, hi, rfl⟩ := List.getElem_of_mem ht
  exact (s2 i _ (List.getElem?_eq_getElem hi)).1, fun t ht p hp => by
  obtain ⟨i, hi, rfl⟩ := List.getElem_of_mem ht
  exact ((s2 i _ (List.getElem?_eq_getElem hi)).2 p hp).rg⟩
 have key : ∀ u v c, 0 ≤ u → u < 5 → (v, c) ∈ tabAt (stepsP W ns) u → (0 ≤ v ∧ v < 5) ∧ v ≠ u ∧ lev (wAt W u) (wAt W v) 6 ≤ c := fun u v c hu hu5 h => by
  have := (s2 u.toNat _ (tabAt_get ok ⟨hu, hu5⟩)).2 (v, c) h
  have e : ((u.toNat : Nat) : Int) = u := by exact o291 hu
  rw [e] at this
  exact ⟨this.rg, this.ne, this.co⟩
 have wk : ∀ u : Int, 0 ≤ u → u < 5 → wordOk (wAt W u) := fun u a b => ws_ok hl hw ⟨a, b⟩
 have nk : ∀ u : Int, 0 ≤ u → u < 5 → nAt (nearP W mo) u = min (lev (wAt W u) (W.getD 4 []) mo) (mo + 1) := fun u a b => by
  have : u.toNat < W.length := by exact o292 hl b
  simp [nAt, nearP, wAt, List.getD_eq_getElem?_getD, List.getElem?_eq_getElem this]
 refine ⟨ok, fun u v c a b h => (key u v c a b h).2.1, fun u v c a b h => ?_, fun u v c a b h => ?_⟩
 ·obtain ⟨k1, k2, k3⟩ := key u v c a b h
  obtain ⟨l1, l2⟩ := lev_pos (wk u a b) (wk v k1.1 k1.2)
  exact ⟨by exact o293 k3 l1, fun h0 => l2 (by exact o294 k3 l1 h0)⟩
 ·obtain ⟨k1, k2, k3⟩ := key u v c a b h
  rw [nk u a b, nk v k1.1 k1.2]
  have := near_step (wk u a b) (wk v k1.1 k1.2) (wk 4 (by decide) (by decide)) h0 h8
  have e4 : wAt W 4 = W.getD 4 [] := rfl
  rw [e4] at this
  exact o295 k3 this
/-! the ways and the least costs -/
inductive IsWay (T : List Tab) : Way → Prop
 | zero : IsWay T ([0], 0)
 | step (p : Way) (v c : Int) (hp : IsWay T p) (he : (v, c) ∈ tabAt T (endOf p)) (hv : v ∉ p.1) : IsWay T (p.1 ++ [v], p.2 + c)
variable {W : List (List Nat)} {T : List Tab} {nr : List Int}
theorem endOf_snoc (l : List Int) (v c : Int) : endOf (l ++ [v], c) = v := by simp [endOf]
set_option tactic.hygienic true in
theorem ext_mem {p q : Way} : q ∈ ext T p ↔ ∃ v c, (v, c) ∈ tabAt T (endOf p) ∧ v ∉ p.1 ∧ q = (p.1 ++ [v], p.2 + c) := by
 walk_at "T,p,q|"
 unfold ext
 rw [List.mem_flatMap]
 constructor
 ·rintro ⟨⟨v, c⟩, he, hq⟩
  unfold ext1 at hq
  split at hq
  ·cases hq
  ·rename_i hn
   exact ⟨v, c, he, fun h => hn (by simpa using h), List.mem_singleton.mp hq⟩
 ·rintro ⟨v, c, he, hn, rfl⟩
  refine ⟨(v, c), he, ?_⟩
  unfold ext1
  rw [if_neg (by simpa using hn)]
  simp
theorem ways_all {F : List Way} (eq : F = ([0], 0) :: F.flatMap (ext T)) (ok : ∀ p ∈ F, WayOk p) (q : Way) : q ∈ F ↔ IsWay T q := by
 constructor
 ·have key : ∀ (n : Nat) (q : Way), q.1.length = n → q ∈ F → IsWay T q := by
   intro n
   induction n with
   | zero => intro q hq hF; exact absurd (List.eq_nil_of_length_eq_zero hq) (ok q hF).ne
   | succ n ih =>
    intro q hq hF
    rw [eq] at hF
    rcases List.mem_cons.mp hF with rfl | hF
    ·exact .zero
    ·obtain ⟨p, hp, he⟩ := List.mem_flatMap.mp hF
     obtain ⟨v, c, h1, h2, rfl⟩ := ext_mem.mp he
     exact .step p v c (ih p (by simpa using hq) hp) h1 h2
  exact key _ q rfl
 ·intro h
  induction h with
  | zero => rw [eq]; simp
  | step p v c hp he hv ih =>
   rw [eq]
   exact List.mem_cons_of_mem _ (List.mem_flatMap.mpr ⟨p, ih, ext_mem.mpr ⟨v, c, he, hv, rfl⟩⟩)
theorem IsWay.ok (g : TOk T) {p : Way} (h : IsWay T p) : WayOk p := by
 induction h with
 | zero => exact ⟨by simp, by simp, by simp⟩
 | step p v c hp he hv ih => exact (ih.ext g _ (ext_mem.mpr ⟨v, c, he, hv, rfl⟩)).1
theorem IsWay.endRg (g : TOk T) {p : Way} (h : IsWay T p) : 0 ≤ endOf p ∧ endOf p < 5 := (h.ok g).endRg
theorem IsWay.pos (g : Gm W T nr) {p : Way} (h : IsWay T p) : 0 ≤ p.2 := by
 induction h with
 | zero => exact Int.le_refl 0
 | step p v c hp he hv ih =>
  have := (g.pos _ _ _ (hp.endRg g.ok).1 (hp.endRg g.ok).2 he).1
  show 0 ≤ p.2 + c; exact o296 ih this
theorem IsWay.before (g : Gm W T nr) {p : Way} (h : IsWay T p) : ∀ v ∈ p.1, ∃ q, IsWay T q ∧ endOf q = v ∧ q.2 ≤ p.2 := by
 induction h with
 | zero => exact fun v hv => ⟨([0], 0), .zero, by simp at hv; simp [endOf, hv], Int.le_refl _⟩
 | step p x c hp he hx ih =>
  intro v hv
  have hc := (g.pos _ _ _ (hp.endRg g.ok).1 (hp.endRg g.ok).2 he).1
  rcases List.mem_append.mp hv with hv | hv
  ·obtain ⟨q, hq, e, hle⟩ := ih v hv
   exact ⟨q, hq, e, by show q.2 ≤ p.2 + c; exact o73 hc hle⟩
  ·cases List.mem_singleton.mp hv
   exact ⟨_, .step p x c hp he hx, endOf_snoc .., Int.le_refl _⟩
theorem IsWay.relax (g : Gm W T nr) {p : Way} (hp : IsWay T p) {v c : Int} (he : (v, c) ∈ tabAt T (endOf p)) : ∃ q, IsWay T q ∧ endOf q = v ∧ q.2 ≤ p.2 + c := by
 have hc := (g.pos _ _ _ (hp.endRg g.ok).1 (hp.endRg g.ok).2 he).1
 by_cases hv : v ∈ p.1
 ·obtain ⟨q, hq, e, hle⟩ := hp.before g v hv
  exact ⟨q, hq, e, by exact o73 hc hle⟩
 ·exact ⟨_, .step p v c hp he hv, endOf_snoc .., Int.le_refl _⟩
structure Dist (T : List Tab) (v d : Int) : Prop where
 at_ : ∃ p, IsWay T p ∧ endOf p = v ∧ p.2 = d
 le : ∀ p, IsWay T p → endOf p = v → d ≤ p.2
theorem Dist.uniq {v d e : Int} (a : Dist T v d) (b : Dist T v e) : d = e := by
 obtain ⟨p, hp, h1, rfl⟩ := a.at_
 obtain ⟨q, hq, h2, rfl⟩ := b.at_
 have := a.le q hq h2
 have := b.le p hp h1
 exact o300 (by assumption) this
/-! the search with guesses -/
noncomputable abbrev mk3 (nr : List Int) (v g : Int) : Mine.T := (g + nAt nr v, g, v)
structure AS (T : List Tab) (nr : List Int) (h : List Mine.T) (t : Tab) (hs : List Int) : Prop where
 nd : (t.map (·.1)).Nodup
 set : ∀ u g, (u, g) ∈ t → Dist T u g
 hp : ∀ e ∈ h, (0 ≤ e.2.2 ∧ e.2.2 < 5) ∧ e = mk3 nr e.2.2 e.2.1 ∧ ∃ p, IsWay T p ∧ endOf p = e.2.2 ∧ p.2 ≤ e.2.1
 st : (∃ g, (0, g) ∈ t) ∨ mk3 nr 0 0 ∈ h
 ed : ∀ u g, (u, g) ∈ t → ∀ v c, (v, c) ∈ tabAt T u → (∃ g', (v, g') ∈ t) ∨ mk3 nr v (g + c) ∈ h
 so : hs.Pairwise (· ≤ ·)
 lo : ∀ a ∈ hs, ∀ e ∈ h, a ≤ e.1
theorem AS.start : AS T nr [(nAt nr 0, 0, 0)] [] [] where
 nd := by simp
 set _ _ q := nomatch q
 hp e he := by
  cases List.mem_singleton.mp he
  exact ⟨⟨Int.le_refl 0, (by decide : (0 : Int) < 5)⟩, by simp [mk3], ([0], 0), .zero, rfl, Int.le_refl _⟩
 st := .inr (by simp [mk3])
 ed _ _ q := nomatch q
 so := .nil
 lo _ q := nomatch q
variable {h h' h'' : List Mine.T} {t : Tab} {hs : List Int} {e : Mine.T}
theorem AS.skip (a : AS T nr h t hs) (h1 : ∀ x ∈ h, x = e ∨ x ∈ h') (h2 : ∀ x ∈ h', x ∈ h) (hu : ∃ g, (e.2.2, g) ∈ t) : AS T nr h' t hs where
 nd := a.nd
 set := a.set
 hp x hx := a.hp x (h2 x hx)
 st := by
  rcases a.st with q | q
  ·exact .inl q
  ·rcases h1 _ q with q | q
   ·rw [← q] at hu; exact .inl hu
   ·exact .inr q
 ed u g hg v c hv := by
  rcases a.ed u g hg v c hv with q | q
  ·exact .inl q
  ·rcases h1 _ q with q | q
   ·rw [← q] at hu; exact .inl hu
   ·exact .inr q
 so := a.so
 lo x hx y hy := a.lo x hx y (h2 y hy)
theorem AS.settle (g : Gm W T nr) (a : AS T nr h t hs) (he : e ∈ h) (hl : ∀ x ∈ h, e.1 ≤ x.1) (h1 : ∀ x ∈ h, x = e ∨ x ∈ h') (h2 : ∀ x ∈ h', x ∈ h) (hu : ¬ ∃ g, (e.2.2, g) ∈ t)
  (h3 : ∀ x, x ∈ h'' ↔ x ∈ h' ∨ ∃ v c, (v, c) ∈ tabAt T e.2.2 ∧ x = mk3 nr v (e.2.1 + c)) : AS T nr h'' (t ++ [(e.2.2, e.2.1)]) (hs ++ [e.1]) := by
 walk_at "W,T,nr,h,h',h'',t,hs,e|g,a,he,hl,h1,h2,hu,h3"
 obtain ⟨rg, e3, p0, hp0, ep0, lp0⟩ := a.hp e he
 walk_at "p0|hp0,ep0,lp0"
 have e1 : e.1 = e.2.1 + nAt nr e.2.2 := congrArg Prod.fst e3
 have key : ∀ q, IsWay T q → (∃ g, (endOf q, g) ∈ t) ∨ e.2.1 + nAt nr e.2.2 ≤ q.2 + nAt nr (endOf q) := by
  intro q hq
  walk_at "q|hq"
  induction hq with
  | zero =>
   rcases a.st with q | q
   ·exact .inl q
   ·have := hl _ q
    rw [e1] at this
    exact .inr this
  | step p v c hp hv hn ih =>
   walk_at "p,v,c|hp,hv,hn,ih"
   rw [endOf_snoc]
   have rgp := hp.endRg g.ok
   rcases ih with ⟨gp, hgp⟩ | ih
   ·walk_at "gp|hgp"
    rcases a.ed _ _ hgp v c hv with q | q
    ·exact .inl q
    ·have h4 := hl _ q
     have h5 := (a.set _ _ hgp).le p hp rfl
     rw [e1] at h4
     refine .inr ?_
     show _ ≤ p.2 + c + _
     have h6 : e.2.1 + nAt nr e.2.2 ≤ gp + c + nAt nr v := h4
     exact o297 h5 h6
   ·have h4 := g.cons _ _ _ rgp.1 rgp.2 hv
    refine .inr ?_
    show _ ≤ p.2 + c + _
    exact o298 ih h4
 have hd : Dist T e.2.2 e.2.1 := by
  have le : ∀ p, IsWay T p → endOf p = e.2.2 → e.2.1 ≤ p.2 := fun p hp ep => by
   have := (key p hp).resolve_left (by rw [ep]; exact hu)
   rw [ep] at this
   exact o299 this
  have := le p0 hp0 ep0
  exact ⟨⟨p0, hp0, ep0, by exact o300 lp0 this⟩, le⟩
 have sub : ∀ x ∈ h, x ∈ h'' ∨ x = e := fun x hx => by
  rcases h1 x hx with q | q
  ·exact .inr q
  ·exact .inl ((h3 x).mpr (.inl q))
 refine ⟨?_, fun u gu hg => ?_, fun x hx => ?_, ?_, fun u gu hg v c hv => ?_, ?_, ?_⟩
 ·rw [List.map_append, List.nodup_append]
  refine ⟨a.nd, by simp, fun x hx y hy => ?_⟩
  simp only [List.map_cons, List.map_nil, List.mem_singleton] at hy
  subst hy
  rintro rfl
  obtain ⟨z, hz, q⟩ := List.mem_map.mp hx
  exact hu ⟨z.2, by rw [← q]; exact hz⟩
 ·rcases List.mem_append.mp hg with hg | hg
  ·exact a.set u gu hg
  ·cases List.mem_singleton.mp hg; exact hd
 ·walk_at "x|hx"
  rcases (h3 x).mp hx with hx | ⟨v, c, hv, rfl⟩
  ·exact a.hp x (h2 x hx)
  ·have rv := g.ok.rg _ (tabAt_mem g.ok rg) (v, c) hv
   obtain ⟨p, hp, ep, dp⟩ : ∃ p, IsWay T p ∧ endOf p = e.2.2 ∧ p.2 = e.2.1 := hd.at_
   rw [← ep] at hv
   obtain ⟨q, hq, eq, lq⟩ := hp.relax g hv
   exact ⟨rv, rfl, q, hq, eq, by show q.2 ≤ e.2.1 + c; exact o301 dp lq⟩
 ·rcases a.st with ⟨gz, q⟩ | q
  ·exact .inl ⟨gz, List.mem_append.mpr (.inl q)⟩
  ·rcases sub _ q with q | q
   ·exact .inr q
   ·exact .inl ⟨e.2.1, List.mem_append.mpr (.inr (by rw [← q]; simp))⟩
 ·walk_at "u,gu,v,c|hg,hv"
  rcases List.mem_append.mp hg with hg | hg
  ·rcases a.ed u gu hg v c hv with ⟨gz, q⟩ | q
   ·exact .inl ⟨gz, List.mem_append.mpr (.inl q)⟩
   ·rcases sub _ q with q | q
    ·exact .inr q
    ·exact .inl ⟨e.2.1, List.mem_append.mpr (.inr (by rw [← q]; simp))⟩
  ·cases List.mem_singleton.mp hg
   exact .inr ((h3 _).mpr (.inr ⟨v, c, hv, rfl⟩))
 ·rw [List.pairwise_append]
  exact ⟨a.so, by simp, fun x hx y hy => by cases List.mem_singleton.mp hy; exact a.lo x hx e he⟩
 ·have le1 : ∀ x ∈ h'', e.1 ≤ x.1 := fun x hx => by
   rcases (h3 x).mp hx with hx | ⟨v, c, hv, rfl⟩
   ·exact hl x (h2 x hx)
   ·have := g.cons _ _ _ rg.1 rg.2 hv
    rw [e1]
    show _ ≤ e.2.1 + c + nAt nr v
    exact o302 this
  intro x hx y hy
  rcases List.mem_append.mp hx with hx | hx
  ·have := a.lo x hx e he
   have := le1 y hy
   omega
  ·cases List.mem_singleton.mp hx; exact le1 y hy
theorem AS.done (g : TOk T) (a : AS T nr [] t hs) : ∀ v d, (v, d) ∈ t ↔ Dist T v d := by
 have all : ∀ q, IsWay T q → ∃ g, (endOf q, g) ∈ t := by
  intro q hq
  induction hq with
  | zero => exact a.st.resolve_right (by simp)
  | step p v c hp hv hn ih =>
   obtain ⟨gp, hg⟩ := ih
   rw [endOf_snoc]
   exact (a.ed _ _ hg v c hv).resolve_right (by simp)
 intro v d
 refine ⟨a.set v d, fun hd => ?_⟩
 obtain ⟨p, hp, rfl, _⟩ := hd.at_
 obtain ⟨gp, hg⟩ := all p hp
 rw [hd.uniq (a.set _ _ hg)]
 exact hg
end
section
/-! the least costs and their numbers, way by way -/
theorem gput_iff {α : Type} {t : List (Int × α)} {k k' : Int} {c d : α} : (k', d) ∈ gput t k c ↔ (k' = k ∧ d = c) ∨ (k' ≠ k ∧ (k', d) ∈ t) := by
 unfold gput
 by_cases h : ghas t k = true
 ·rw [if_pos h, List.mem_map]
  constructor
  ·rintro ⟨x, hx, e⟩
   by_cases q : x.1 = k
   ·rw [if_pos q] at e
    cases e
    exact .inl ⟨q, rfl⟩
   ·rw [if_neg q] at e
    subst e
    exact .inr ⟨q, hx⟩
  ·rintro (⟨rfl, rfl⟩ | ⟨q, hx⟩)
   ·unfold ghas gget at h
    rw [Option.isSome_map, List.find?_isSome] at h
    obtain ⟨x, hx, e⟩ := h
    have e : x.1 = k' := by simpa using e
    exact ⟨x, hx, by rw [if_pos e, e]⟩
   ·exact ⟨_, hx, by rw [if_neg q]⟩
 ·rw [if_neg h, List.mem_append, List.mem_singleton]
  have hn : ∀ x : α, (k, x) ∉ t := fun x hx => h (by
   unfold ghas gget
   rw [Option.isSome_map]
   exact List.find?_isSome.mpr ⟨_, hx, by simp⟩)
  constructor
  ·rintro (hx | e)
   ·exact .inr ⟨fun q => hn d (q ▸ hx), hx⟩
   ·cases e; exact .inl ⟨rfl, rfl⟩
  ·rintro (⟨rfl, rfl⟩ | ⟨_, hx⟩)
   ·exact .inr rfl
   ·exact .inl hx
theorem tab_uniq {α : Type} {t : List (Int × α)} (nd : (t.map (·.1)).Nodup) {k : Int} {a b : α} (h1 : (k, a) ∈ t) (h2 : (k, b) ∈ t) : a = b := by
 have e1 := gget_mem nd h1
 have e2 := gget_mem nd h2
 dsimp only at e1 e2
 rw [e1] at e2
 exact Option.some.inj e2
noncomputable def cntW (l : List Way) (v d : Int) : Nat := (l.filter fun p => decide (endOf p = v) && decide (p.2 = d)).length
theorem cntW_snoc (l : List Way) (p : Way) (v d : Int) : cntW (l ++ [p]) v d = cntW l v d + if endOf p = v ∧ p.2 = d then 1 else 0 := by
 unfold cntW
 rw [List.filter_append, List.length_append]
 congr 1
 by_cases h1 : endOf p = v <;> by_cases h2 : p.2 = d <;> simp [h1, h2]
theorem cntW_zero {l : List Way} {v d : Int} (h : ∀ p ∈ l, endOf p = v → p.2 ≠ d) : cntW l v d = 0 := by
 unfold cntW
 rw [List.length_eq_zero_iff, List.filter_eq_nil_iff]
 intro p hp q
 simp only [Bool.and_eq_true, decide_eq_true_eq] at q
 exact h p hp q.1 q.2
structure DM (l : List Way) (due many : Tab) : Prop where
 nd : (due.map (·.1)).Nodup
 nm : (many.map (·.1)).Nodup
 some : ∀ p ∈ l, ∃ d, (endOf p, d) ∈ due
 at_ : ∀ v d, (v, d) ∈ due → (∃ p ∈ l, endOf p = v ∧ p.2 = d) ∧ ∀ p ∈ l, endOf p = v → d ≤ p.2
 many : ∀ v n, (v, n) ∈ many ↔ ∃ d, (v, d) ∈ due ∧ n = (cntW l v d : Int)
theorem DM.nil : DM [] [] [] := ⟨by simp, by simp, by simp, fun v d h => (nomatch h), fun v n => by simp⟩
variable {l : List Way} {due many : Tab} {p : Way}
theorem DM.better (a : DM l due many) (h : ∀ d, (endOf p, d) ∈ due → p.2 < d) : DM (l ++ [p]) (gput due (endOf p) p.2) (gput many (endOf p) 1) where
 nd := gput_nd _ _ a.nd
 nm := gput_nd _ _ a.nm
 some q hq := by
  by_cases e : endOf q = endOf p
  ·exact ⟨p.2, gput_iff.mpr (.inl ⟨e, rfl⟩)⟩
  ·rcases List.mem_append.mp hq with hq | hq
   ·obtain ⟨d, hd⟩ := a.some q hq
    exact ⟨d, gput_iff.mpr (.inr ⟨e, hd⟩)⟩
   ·cases List.mem_singleton.mp hq; exact (e rfl).elim
 at_ v d hd := by
  rcases gput_iff.mp hd with ⟨rfl, rfl⟩ | ⟨e, hd⟩
  ·refine ⟨⟨p, by simp, rfl, rfl⟩, fun q hq eq => ?_⟩
   rcases List.mem_append.mp hq with hq | hq
   ·obtain ⟨d, hd⟩ := a.some q hq
    have := (a.at_ _ _ hd).2 q hq rfl
    rw [eq] at hd
    have := h d hd
    omega
   ·cases List.mem_singleton.mp hq; exact Int.le_refl _
  ·obtain ⟨⟨q, hq, e1, e2⟩, le⟩ := a.at_ v d hd
   refine ⟨⟨q, by simp [hq], e1, e2⟩, fun q hq eq => ?_⟩
   rcases List.mem_append.mp hq with hq | hq
   ·exact le q hq eq
   ·cases List.mem_singleton.mp hq; exact (e eq.symm).elim
 many v n := by
  rw [gput_iff]
  by_cases e : v = endOf p
  ·subst e
   have h0 : cntW (l ++ [p]) (endOf p) p.2 = 1 := by
    rw [cntW_snoc, if_pos ⟨rfl, rfl⟩, cntW_zero]
    intro q hq eq e2
    obtain ⟨d, hd⟩ := a.some q hq
    have h1 := (a.at_ _ _ hd).2 q hq rfl
    rw [eq] at hd
    have h2 := h d hd
    exact o303 e2 h1 h2
   constructor
   ·rintro (⟨_, rfl⟩ | ⟨q, _⟩)
    ·exact ⟨p.2, gput_iff.mpr (.inl ⟨rfl, rfl⟩), by rw [h0]; rfl⟩
    ·exact (q rfl).elim
   ·rintro ⟨d, hd, rfl⟩
    rcases gput_iff.mp hd with ⟨_, rfl⟩ | ⟨q, _⟩
    ·exact .inl ⟨rfl, by rw [h0]; rfl⟩
    ·exact (q rfl).elim
  ·have hc : ∀ d, cntW (l ++ [p]) v d = cntW l v d := fun d => by rw [cntW_snoc, if_neg (fun q => e q.1.symm), Nat.add_zero]
   constructor
   ·rintro (⟨q, _⟩ | ⟨_, hm⟩)
    ·exact (e q).elim
    ·obtain ⟨d, hd, rfl⟩ := (a.many v n).mp hm
     exact ⟨d, gput_iff.mpr (.inr ⟨e, hd⟩), by rw [hc]⟩
   ·rintro ⟨d, hd, rfl⟩
    rcases gput_iff.mp hd with ⟨q, _⟩ | ⟨_, hd⟩
    ·exact (e q).elim
    ·exact .inr ⟨e, (a.many v _).mpr ⟨d, hd, by rw [hc]⟩⟩
theorem DM.same (a : DM l due many) (hd : (endOf p, p.2) ∈ due) {n : Int} (hn : (endOf p, n) ∈ many) : DM (l ++ [p]) due (gput many (endOf p) (n + 1)) where
 nd := a.nd
 nm := gput_nd _ _ a.nm
 some q hq := by
  rcases List.mem_append.mp hq with hq | hq
  ·exact a.some q hq
  ·cases List.mem_singleton.mp hq; exact ⟨_, hd⟩
 at_ v d h := by
  obtain ⟨⟨q, hq, e1, e2⟩, le⟩ := a.at_ v d h
  refine ⟨⟨q, by simp [hq], e1, e2⟩, fun q hq eq => ?_⟩
  rcases List.mem_append.mp hq with hq | hq
  ·exact le q hq eq
  ·cases List.mem_singleton.mp hq
   subst eq
   rw [tab_uniq a.nd h hd]; exact Int.le_refl _
 many v m := by
  rw [gput_iff]
  by_cases e : v = endOf p
  ·subst e
   obtain ⟨d, h1, rfl⟩ := (a.many _ _).mp hn
   have e := tab_uniq a.nd h1 hd
   subst e
   have h0 : (cntW (l ++ [p]) (endOf p) p.2 : Int) = cntW l (endOf p) p.2 + 1 := by rw [cntW_snoc, if_pos ⟨rfl, rfl⟩]; exact o304
   constructor
   ·rintro (⟨_, rfl⟩ | ⟨q, _⟩)
    ·exact ⟨p.2, hd, h0.symm⟩
    ·exact (q rfl).elim
   ·rintro ⟨d, h2, rfl⟩
    rw [tab_uniq a.nd h2 hd]
    exact .inl ⟨rfl, h0⟩
  ·have hc : ∀ d, cntW (l ++ [p]) v d = cntW l v d := fun d => by rw [cntW_snoc, if_neg (fun q => e q.1.symm), Nat.add_zero]
   simp only [hc]
   rw [← a.many]
   exact ⟨fun h => h.elim (fun q => (e q.1).elim) (·.2), fun h => .inr ⟨e, h⟩⟩
theorem DM.worse (a : DM l due many) {d : Int} (hd : (endOf p, d) ∈ due) (h : d < p.2) : DM (l ++ [p]) due many where
 nd := a.nd
 nm := a.nm
 some q hq := by
  rcases List.mem_append.mp hq with hq | hq
  ·exact a.some q hq
  ·cases List.mem_singleton.mp hq; exact ⟨_, hd⟩
 at_ v d' h' := by
  obtain ⟨⟨q, hq, e1, e2⟩, le⟩ := a.at_ v d' h'
  refine ⟨⟨q, by simp [hq], e1, e2⟩, fun q hq eq => ?_⟩
  rcases List.mem_append.mp hq with hq | hq
  ·exact le q hq eq
  ·cases List.mem_singleton.mp hq
   subst eq
   have := tab_uniq a.nd h' hd
   exact o305 h this
 many v n := by
  rw [a.many]
  refine exists_congr fun d' => and_congr_right fun h' => ?_
  rw [cntW_snoc, if_neg, Nat.add_zero]
  rintro ⟨rfl, e⟩
  have := tab_uniq a.nd h' hd
  exact o306 h e this
theorem dictEq_of {d e : Tab} (nd : (d.map (·.1)).Nodup) (ne : (e.map (·.1)).Nodup) (h : ∀ k v, (k, v) ∈ d ↔ (k, v) ∈ e) : dictEq d e = true := by
 unfold dictEq
 have len : ∀ {a b : Tab}, (a.map (·.1)).Nodup → (∀ k v, (k, v) ∈ a → (k, v) ∈ b) → a.length ≤ b.length := fun {a b} na hs => by
  have := nodup_le (l := a.map (·.1)) (r := b.map (·.1)) na (fun k hk => by
   obtain ⟨x, hx, rfl⟩ := List.mem_map.mp hk
   exact List.mem_map_of_mem (hs x.1 x.2 hx))
  simpa using this
 have h1 := len nd (fun k v => (h k v).mp)
 have h2 := len ne (fun k v => (h k v).mpr)
 simp only [Bool.and_eq_true, beq_iff_eq, List.all_eq_true]
 refine ⟨by exact o307 h1 h2, fun x hx => ?_⟩
 exact gget_mem ne ((h x.1 x.2).mp hx)
theorem DM.dist {T : List Tab} {F : List Way} (hF : ∀ q, q ∈ F ↔ IsWay T q) (a : DM F due many) (v d : Int) : (v, d) ∈ due ↔ Dist T v d := by
 have to : ∀ d, (v, d) ∈ due → Dist T v d := fun d hd => by
  obtain ⟨⟨q, hq, e1, e2⟩, le⟩ := a.at_ v d hd
  exact ⟨⟨q, (hF q).mp hq, e1, e2⟩, fun p hp => le p ((hF p).mpr hp)⟩
 refine ⟨to d, fun h => ?_⟩
 obtain ⟨q, hq, e1, e2⟩ := h.at_
 obtain ⟨d', hd'⟩ := a.some q ((hF q).mpr hq)
 rw [e1] at hd'
 rw [h.uniq (to d' hd')]; exact hd'
theorem sorted_same : ∀ {l l' : List Int}, l'.Perm l → l.Pairwise (· ≤ ·) → l'.Pairwise (· ≤ ·) → l = l'
 | [], l', h, _, _ => (List.perm_nil.mp h).symm
 | a :: l, [], h, _, _ => absurd h.length_eq (by simp)
 | a :: l, b :: l', h, s1, s2 => by
  rw [List.pairwise_cons] at s1 s2
  have hb : b ∈ a :: l := h.subset (by simp)
  have ha : a ∈ b :: l' := h.symm.subset (by simp)
  have e : a = b := by
   rcases List.mem_cons.mp hb with q | q
   ·exact q.symm
   ·rcases List.mem_cons.mp ha with q' | q'
    ·exact q'
    ·have := s1.1 b q
     have := s2.1 a q'
     omega
  subst e
  rw [sorted_same ((List.perm_cons a).mp h) s1.2 s2.2]
end
/-! the tight steps, the free steps -/
noncomputable def tv (t : Tab) (u : Int) : Int := (gget t u).getD 0
noncomputable def tgt (T : List Tab) (t : Tab) (u v : Int) : Bool := match gget (tabAt T u) v with
 | some c => decide (tv t u + c = tv t v)
 | none => false
noncomputable def free (T : List Tab) (u v : Int) : Bool := match gget (tabAt T u) v with
 | some c => decide (c = 0)
 | none => false
noncomputable def ks (t : Tab) : List Int := t.map (·.1)
noncomputable def needsP (T : List Tab) (t : Tab) (v : Int) : List Int := (ks t).filter fun u => tgt T t u v
noncomputable def needsL (T : List Tab) (t : Tab) : List (Int × List Int) := (ks t).map fun v => (v, needsP T t v)
noncomputable def endsStep (T : List Tab) (t : Tab) (es : List Int) : List Int := (ks t).filter fun v => !decide ((es.filter fun u => free T u v) = [])
noncomputable def endsN (T : List Tab) (t : Tab) : Nat → List Int
 | 0 => ks t
 | n + 1 => endsStep T t (endsN T t n)
theorem gput_new {α : Type} {t : List (Int × α)} {k : Int} (h : ∀ e ∈ t, e.1 ≠ k) (c : α) : gput t k c = t ++ [(k, c)] := by
 unfold gput ghas gget
 rw [Option.isSome_map, List.find?_eq_none.mpr (fun x hx => by simpa using h x hx)]
 rfl
section
open PySem.Calls
theorem TC.len_tup {xs : List V} {Q : V → Hp → Prop} (hl : (xs.length : Int) < 2 ^ 63) (h : Q (.int xs.length) H) : TC prog w s₀ A (.raw (.builtin "len")) [.tup xs] Q H := .mk fun B Z s f ys R hf hy => by
 obtain ⟨_, rfl⟩ := hf.inv
 obtain ⟨x0, rfl, h0⟩ := hy.inv1
 obtain ⟨a, o, items, rfl, hz, so, hi⟩ := h0.inv
 have hlen := hi.length
 obtain ⟨hc, _, n, hd⟩ := so.parts
 refine PyProof.Rows.len_tuple ⟨o, R.kz _ _ hz, hc, n, hd⟩ (by simp; exact o11 hl hlen) (.tok R ?_ h)
 rw [show ((items.toArray.size : Nat) : Int) = xs.length from by simp [hlen]]
 exact .int _ _
theorem TC.dget_dct {kvs : List (Int × V)} {k : Int} {Q : V → Hp → Prop} (h : Q ((Mine.dget kvs k).getD .none) H) : TC prog w s₀ A (.raw (.builtin "dict.get")) [.dct kvs, .int k] Q H := by
 walk_at "prog,w,s₀,H,A,kvs,k,Q|h"
 refine .mk ?_
 intro B Z s f ys R hf hy
 walk_at "B,Z,s,f,ys|R,hf,hy"
 obtain ⟨_, rfl⟩ := hf.inv
 obtain ⟨x0, x, rfl, h0, hx⟩ := hy.two
 walk_at "x0,x|hy,h0,hx"
 obtain ⟨a, o, kvr, rfl, hm, hz, ho, hr⟩ := h0.inv
 walk_at "a,o,kvr|hy,h0,hm,hz,ho,hr"
 obtain ⟨t, rfl⟩ := hx.inv
 have hM := mapOf_dict (R.kz _ _ hz) ho
 refine call_meetsIn F.slot_dict_get hM.typeIs F.entry_dict_get (F.args_dict_get_2 _ _) (meets_dict_get (intKind prog w) a (intKind_is prog w k _) (ne_mods hm)) ⟨_, hM, ?_⟩
 rcases hr.find k with ⟨e1, e2⟩ | ⟨v, x, e1, e2, e3⟩
 ·rw [e2]; rw [e1] at h; exact PV.tok R .none h
 ·rw [e2]; rw [e1] at h; exact PV.tok R e3 h
structure Cls (s₀ : Shared) (K : Frag) : Prop where
 x : K.In s₀.heap
 fN : FieldK K 151 (Str.ofString "_node2info")
 fR : FieldK K 151 (Str.ofString "_ready_nodes")
 fP : FieldK K 151 (Str.ofString "_npassedout")
 fF : FieldK K 151 (Str.ofString "_nfinished")
 m1 : MethK K 151 (Str.ofString "_get_nodeinfo") 94
 m2 : MethK K 151 (Str.ofString "add") 101
 m3 : MethK K 151 (Str.ofString "prepare") 106
 m4 : MethK K 151 (Str.ofString "get_ready") 113
 m5 : MethK K 151 (Str.ofString "is_active") 120
 m7 : MethK K 151 (Str.ofString "done") 134
 m8 : MethK K 151 (Str.ofString "_find_cycle") 141
 mkS : MakeK K 151 87
 mkN : MakeK K 54 50
 kS : keepIn K (.ref 151) = true
 kN : keepIn K (.ref 54) = true
 t0 : SlotK K 54 (Str.ofString "node") 0 55
 t1 : SlotK K 54 (Str.ofString "npredecessors") 1 56
 t2 : SlotK K 54 (Str.ofString "successors") 2 57
 fn2 : fnIn K 101 = true
 g2 : specialIn K (.ref 101) "__get__" = some (some (.builtin "function.__get__"))
 tk2 : takesIn K (.ref 101) = some false
 a0 : ∃ p T o n, clsDef 12 0 = some p ∧ At s₀ 87 p (.ref T) ∧ s₀.heap.get? T = some o ∧ o.data = .seq #[.none] n
 a1 : ∃ p, clsDef 12 1 = some p ∧ At s₀ 94 p .none
 a2 : ∃ p, clsDef 12 2 = some p ∧ At s₀ 101 p .none
 a3 : ∃ p, clsDef 12 3 = some p ∧ At s₀ 106 p .none
 a4 : ∃ p, clsDef 12 4 = some p ∧ At s₀ 113 p .none
 a5 : ∃ p, clsDef 12 5 = some p ∧ At s₀ 120 p .none
 a7 : ∃ p, clsDef 12 7 = some p ∧ At s₀ 134 p .none
 a8 : ∃ p, clsDef 12 8 = some p ∧ At s₀ 141 p .none
 b0 : ∃ p, clsDef 10 1 = some p ∧ At s₀ 50 p .none
structure Nd where
 k : Int
 a : Addr
 sa : Addr
 np : Int
 sc : List Int
instance : Nonempty Nd := ⟨⟨0, 0, 0, 0, []⟩⟩
noncomputable abbrev nms := (Str.ofString "_node2info", Str.ofString "_ready_nodes", Str.ofString "_npassedout", Str.ofString "_nfinished")
noncomputable def fields (n2i rd : V) (p f : Int) : List (Str × V) := [(Str.ofString "_node2info", n2i), (Str.ofString "_ready_nodes", rd), (Str.ofString "_npassedout", .int p), (Str.ofString "_nfinished", .int f)]
noncomputable def n2iOf (l : List Nd) : List (Int × V) := l.map fun d => (d.k, .ref d.a)
structure Bld (H0 H : Hp) (S D N : Addr) (l : List Nd) : Prop where
 s : H S = some (.inst 151 D)
 d : H D = some (.ns (fields (.ref N) .none 0 0))
 n : H N = some (.dict (n2iOf l))
 nd : (l.map (·.k)).Nodup
 nda : (l.map (·.a)).Nodup
 nds : (l.map (·.sa)).Nodup
 o : ∀ d ∈ l, H d.a = some (.node 54 [some (.int d.k), some (.int d.np), some (.ref d.sa)]) ∧ H d.sa = some (.list (intsV d.sc)) ∧ H0 d.a = none ∧ H0 d.sa = none
 keep : ∀ a o, H0 a = some o → H a = some o
 fr : H0 S = none ∧ H0 D = none ∧ H0 N = none
end
section
open PySem.Calls
theorem Hp.put_ne {a b : Addr} {o : O} (h : b ≠ a) : (H.put a o) b = H b := by unfold Hp.put; rw [if_neg h]
theorem Hp.put_at {a : Addr} {o : O} : (H.put a o) a = some o := by simp [Hp.put]
noncomputable abbrev Gr := List (Int × Int × List Int)
noncomputable def Nd.pr (d : Nd) : Int × Int × List Int := (d.k, d.np, d.sc)
noncomputable def gEns (g : Gr) (v : Int) : Gr := if g.any (·.1 == v) then g else g ++ [(v, 0, [])]
noncomputable def gNp (g : Gr) (v n : Int) : Gr := g.map fun x => if x.1 = v then (x.1, x.2.1 + n, x.2.2) else x
noncomputable def gSc (g : Gr) (u v : Int) : Gr := g.map fun x => if x.1 = u then (x.1, x.2.1, x.2.2 ++ [v]) else x
theorem n2i_find {l : List Nd} (nd : (l.map (·.k)).Nodup) {d : Nd} (h : d ∈ l) : dget (n2iOf l) d.k = some (.ref d.a) := by
 have e := kvM_get V.ref (l.map fun d => (d.k, d.a)) d.k
 have g : gget (l.map fun d => (d.k, d.a)) d.k = some d.a := gget_mem (t := l.map fun d => (d.k, d.a)) (e := (d.k, d.a)) (by simpa [Function.comp_def] using nd) (List.mem_map.mpr ⟨d, h, rfl⟩)
 rw [g] at e
 simpa [kvM, n2iOf, Function.comp_def] using e
theorem n2i_miss {l : List Nd} {v : Int} (h : ∀ d ∈ l, d.k ≠ v) : dget (n2iOf l) v = none := by
 unfold dget n2iOf
 rw [List.find?_eq_none.mpr (fun p hp => by obtain ⟨d, hd, rfl⟩ := List.mem_map.mp hp; simpa using h d hd)]
 rfl
variable {H0 : Hp} {S D N : Addr} {l : List Nd} {K : Frag}
theorem Bld.other (h : Bld H0 H S D N l) {a : Addr} {o : O} (ho : H a = some o) (h1 : ∀ C f, o ≠ .inst C f) (h2 : ∀ f, o ≠ .ns f) (h3 : ∀ f, o ≠ .dict f) : a ≠ S ∧ a ≠ D ∧ a ≠ N :=
 ⟨fun q => by rw [q, h.s] at ho; exact h1 _ _ (Option.some.inj ho).symm, fun q => by rw [q, h.d] at ho; exact h2 _ (Option.some.inj ho).symm, fun q => by rw [q, h.n] at ho; exact h3 _ (Option.some.inj ho).symm⟩
theorem Bld.map (h : Bld H0 H S D N l) {f : Nd → Nd} (hf : ∀ d, (f d).k = d.k ∧ (f d).a = d.a ∧ (f d).sa = d.sa) (hs : H' S = H S) (hd : H' D = H D) (hn : H' N = H N)
  (ho : ∀ d ∈ l, H' d.a = some (.node 54 [some (.int d.k), some (.int (f d).np), some (.ref d.sa)]) ∧ H' d.sa = some (.list (intsV (f d).sc))) (hk : ∀ a o, H0 a = some o → H' a = some o) : Bld H0 H' S D N (l.map f) where
 s := hs.trans h.s
 d := hd.trans h.d
 n := by rw [hn, h.n]; simp [n2iOf, Function.comp_def, (hf _).1, (hf _).2.1]
 nd := by simpa [Function.comp_def, (hf _).1] using h.nd
 nda := by simpa [Function.comp_def, (hf _).2.1] using h.nda
 nds := by simpa [Function.comp_def, (hf _).2.2] using h.nds
 o d hd := by
  obtain ⟨d, hd', rfl⟩ := List.mem_map.mp hd
  rw [(hf d).1, (hf d).2.1, (hf d).2.2]
  exact ⟨(ho d hd').1, (ho d hd').2, (h.o d hd').2.2⟩
 keep := hk
 fr := h.fr
theorem Bld.new (h : Bld H0 H S D N l) {v : Int} {a sa : Addr} (hv : ∀ d ∈ l, d.k ≠ v) (ha : H a = none) (hsa : H sa = none) (hne : a ≠ sa) (h1 : H' a = some (.node 54 [some (.int v), some (.int 0), some (.ref sa)])) (h2 : H' sa = some (.list []))
  (h3 : H' N = some (.dict (n2iOf (l ++ [⟨v, a, sa, 0, []⟩])))) (h4 : ∀ b, b ≠ a → b ≠ sa → b ≠ N → H' b = H b) : Bld H0 H' S D N (l ++ [⟨v, a, sa, 0, []⟩]) := by
 walk_at "H,H',H0,S,D,N,l,v,a,sa|h,hv,ha,hsa,hne,h1,h2,h3,h4"
 have hno : ∀ b o, H b = some o → b ≠ a ∧ b ≠ sa := fun b o e => ⟨fun q => (by rw [q, ha] at e; cases e), fun q => (by rw [q, hsa] at e; cases e)⟩
 have hk : ∀ b o, H b = some o → b ≠ N → H' b = some o := fun b o e hb => by rw [h4 b (hno b o e).1 (hno b o e).2 hb]; exact e
 have h0 : ∀ b, H b = none → H0 b = none := fun b e => by
  cases q : H0 b with
  | none => rfl
  | some o => rw [h.keep b o q] at e; cases e
 have hSN : S ≠ N := fun q => by have := h.s; rw [q, h.n] at this; cases this
 have hDN : D ≠ N := fun q => by have := h.d; rw [q, h.n] at this; cases this
 constructor
 ·exact hk _ _ h.s hSN
 ·exact hk _ _ h.d hDN
 ·exact h3
 ·rw [List.map_append, List.nodup_append]
  exact ⟨h.nd, by simp, fun x hx y hy => by obtain ⟨d, hd, rfl⟩ := List.mem_map.mp hx; simp at hy; subst hy; exact hv d hd⟩
 ·rw [List.map_append, List.nodup_append]
  exact ⟨h.nda, by simp, fun x hx y hy => by obtain ⟨d, hd, rfl⟩ := List.mem_map.mp hx; simp at hy; subst hy; exact (hno _ _ (h.o d hd).1).1⟩
 ·rw [List.map_append, List.nodup_append]
  exact ⟨h.nds, by simp, fun x hx y hy => by obtain ⟨d, hd, rfl⟩ := List.mem_map.mp hx; simp at hy; subst hy; exact (hno _ _ (h.o d hd).2.1).2⟩
 ·intro d hd
  rcases List.mem_append.mp hd with hd | hd
  ·obtain ⟨o1, o2, o3, o4⟩ := h.o d hd
   exact ⟨hk _ _ o1 (fun q => by rw [q, h.n] at o1; cases o1), hk _ _ o2 (fun q => by rw [q, h.n] at o2; cases o2), o3, o4⟩
  ·cases List.mem_singleton.mp hd
   exact ⟨h1, h2, h0 _ ha, h0 _ hsa⟩
 ·intro b o e
  exact hk b o (h.keep b o e) (fun q => by rw [q, h.fr.2.2] at e; cases e)
 ·exact h.fr
theorem ninit_body (p : DefParts) (hp : clsDef 10 1 = some p) {fa : Addr} {n q : Str} {dv kv dc pm : Value} {an : Option Addr} {cd ct : Value} (L : Addr) (C : Cls s₀ K)
  {a : Addr} {v : Int} (ha : H a = some (.node 54 [])) {Q : V → Hp → Prop} (h : ∀ sa H', H sa = none → sa ≠ a → H' a = some (.node 54 [some (.int v), some (.int 0), some (.ref sa)]) → H' sa = some (.list []) → (∀ b, b ≠ a → b ≠ sa → H' b = H b) → Q .none H') :
  TS prog w s₀ A (callEnv (mkFd p n q dv kv dc pm an cd ct) L fa) p.body (fun f _ H1 => Q (retV f) H1) (Loc.ofArgs [(Str.ofString "self", V.ref a), (Str.ofString "node", V.int v)]) H := by
 walk_at "prog,w,s₀,H,A,K,p,fa,n,q,dv,kv,dc,pm,an,cd,ct,L,a,v,Q|hp,C,ha,h"
 simp only [Loc.ofArgs, List.foldl]
 have e := def_eq hp rfl
 have hb := congrArg DefParts.body e
 have hs := congrArg DefParts.scope e
 dsimp only at hb hs
 rw [hb]
 generalize henv : callEnv (mkFd p n q dv kv dc pm an cd ct) L fa = env
 obtain ⟨hE, hsc⟩ := env_of henv hs rfl rfl rfl rfl
 have k0 := held_of "self" hsc rfl
 have k1 := held_of "node" hsc rfl
 clear hsc henv hs hb e hp
 repeat' walk_at "go"
 refine OpU.slot C.x C.t0 ha ?_
 have e1 : (H.put a (.node 54 (slput [] 0 (.int v)))) a = some (.node 54 [some (.int v)]) := by simp [Hp.put, slput]
 repeat' walk_at "go"
 refine OpU.slot C.x C.t1 e1 ?_
 rw [Hp.put_put]
 have e2 : (H.put a (.node 54 (slput [some (.int v)] 1 (.int 0)))) a = some (.node 54 [some (.int v), some (.int 0)]) := by simp [Hp.put, slput]
 repeat' walk_at "go"
 refine TE.list ?_
 repeat' walk_at "go"
 refine ⟨by simp [sizeLine_eq], fun sa hsa => ?_⟩
 walk_at "sa|hsa"
 obtain ⟨hne, hsa⟩ := put_none hsa
 repeat' walk_at "go"
 refine OpU.slot C.x C.t2 (vs := [some (.int v), some (.int 0)]) (by rw [Hp.put_ne (Ne.symm hne)]; exact e2) ?_
 repeat' walk_at "go"
 refine h sa _ hsa hne ?_ ?_ ?_
 ·simp [Hp.put, slput]
 ·simp [Hp.put, hne]
 ·intro b h1 h2
  simp [Hp.put, h1, h2]
theorem tc_ninit {n : Nat} (C : Cls s₀ K) (r : Room A (n + 1)) {a : Addr} {v : Int} (ha : H a = some (.node 54 [])) {Q : V → Hp → Prop} (h : ∀ sa H', H sa = none → sa ≠ a → H' a = some (.node 54 [some (.int v), some (.int 0), some (.ref sa)]) → H' sa = some (.list []) → (∀ b, b ≠ a → b ≠ sa → H' b = H b) → Q .none H') :
  TCd prog w s₀ A (.raw (.ref 50)) [.ref a, .int v] Q H := by
 obtain ⟨p, hp, hat⟩ := C.b0
 have e := def_eq hp rfl
 have hpar := congrArg DefParts.params e
 have hs := congrArg DefParts.scope e
 dsimp only at hs hpar
 refine TCd.at (names := [Str.ofString "self", Str.ofString "node"]) hat r.lt (by rw [hs]; rfl) rfl (fun n q kv dc pm an cd ct xs hx => ?_) (by rw [hs]; rfl) (fun n q kv dc pm an cd ct L => ?_)
 ·obtain ⟨x0, x1, rfl⟩ := Mine.len2 hx; unfold mkFd; rw [hpar]; rfl
 exact ninit_body p hp L C ha h
theorem getinfo_body (p : DefParts) (hp : clsDef 12 1 = some p) {fa : Addr} {n q : Str} {dv kv dc pm : Value} {an : Option Addr} {cd ct : Value} (L : Addr) (P : Prg s₀ mg mb) (C : Cls s₀ K) {rn : Nat} (r : Room A (rn + 2))
  {v : Int} (hB : Bld H0 H S D N l) (hl : l.length ≤ 1000) {Q : V → Hp → Prop} (h : ∀ l' H' d, Bld H0 H' S D N l' → l'.map Nd.pr = gEns (l.map Nd.pr) v → d ∈ l' → d.k = v → Q (.ref d.a) H') :
  TS prog w s₀ A (callEnv (mkFd p n q dv kv dc pm an cd ct) L fa) p.body (fun f _ H1 => Q (retV f) H1) (Loc.ofArgs [(Str.ofString "self", V.ref S), (Str.ofString "node", V.int v)]) H := by
 walk_at "prog,w,s₀,H,A,mg,mb,H0,S,D,N,l,K,p,fa,n,q,dv,kv,dc,pm,an,cd,ct,L,rn,v,Q|hp,P,C,r,hB,hl,h"
 simp only [Loc.ofArgs, List.foldl]
 have e := def_eq hp rfl
 have hb := congrArg DefParts.body e
 have hs := congrArg DefParts.scope e
 dsimp only at hb hs
 rw [hb]
 generalize henv : callEnv (mkFd p n q dv kv dc pm an cd ct) L fa = env
 obtain ⟨hE, hsc⟩ := env_of henv hs rfl rfl rfl rfl
 have k0 := held_of "self" hsc rfl
 have k1 := held_of "node" hsc rfl
 have k2 := held_of "result" hsc rfl
 have s0 := stored_of "result" hsc rfl
 have g0 := kind_g "_NodeInfo" hsc rfl
 have hG := P.G
 have v0 := P.k_NodeInfo
 clear hsc henv hs hb e hp
 have q0 : KeepOk prog w s₀ (.raw (.ref 54)) := KeepOk.cls C.x C.kN
 have ka : KeepOk prog w s₀ (.raw (.builtin "dict.get")) := keep_bi _
 have hk : (l.map Nd.pr).any (·.1 == v) = l.any (·.k == v) := by simp [Nd.pr, List.any_map, Function.comp_def]
 repeat' walk_at "go"
 refine Op1.field C.x C.fN hB.s hB.d (v := .ref N) rfl rfl ?_
 refine OpM.dict hB.n F.slot_dict_get (by rfl) ?_
 repeat' walk_at "go"
 refine TC.dget hB.n ?_
 by_cases hin : ∃ d ∈ l, d.k = v
 ·obtain ⟨d, hd, rfl⟩ := hin
  walk_at "d|hd,h,hk"
  rw [n2i_find hB.nd hd]
  refine TA.name hE s0 ?_
  repeat' walk_at "go"
  refine Op2.isNone_no rfl ?_
  repeat' walk_at "go"
  refine h l _ d hB ?_ hd rfl
  unfold gEns; rw [hk, if_pos (by simp; exact ⟨d, hd, rfl⟩)]
 ·have hin : ∀ d ∈ l, d.k ≠ v := fun d hd q => hin ⟨d, hd, q⟩
  rw [n2i_miss hin]
  refine TA.name hE s0 ?_
  repeat' walk_at "go"
  refine Op2.isNone_yes ?_
  repeat' walk_at "go"
  refine T1.assign_two ?_
  repeat' walk_at "go"
  refine (TC.makeN C.x C.mkN fun a A' hA1 hA2 hA3 hA4 ha => ?_).tc
  walk_at "a,A'|hA1,hA2,hA3,hA4,ha"
  have r' : Room A' (rn + 1) := ⟨hA2.trans r.h, by have := r.d; exact o98 hA3 this, by have := r.u; exact o99 hA4 this⟩
  refine tc_ninit C r' Hp.put_at fun sa H' hsa hne h1 h2 h3 => ⟨rfl, ?_⟩
  have hsa := (put_none hsa).2
  have hNa : N ≠ a := fun q => by rw [← q, hB.n] at ha; cases ha
  have hNs : N ≠ sa := fun q => by rw [← q, hB.n] at hsa; cases hsa
  have hDa : D ≠ a := fun q => by rw [← q, hB.d] at ha; cases ha
  have hDs : D ≠ sa := fun q => by rw [← q, hB.d] at hsa; cases hsa
  have hSa : S ≠ a := fun q => by rw [← q, hB.s] at ha; cases ha
  have hSs : S ≠ sa := fun q => by rw [← q, hB.s] at hsa; cases hsa
  have eN : H' N = some (.dict (n2iOf l)) := by rw [h3 N hNa hNs, Hp.put_ne hNa]; exact hB.n
  refine TA.sub ?_
  repeat' walk_at "go"
  refine Op1.field C.x C.fN (S := S) (D := D) (f := fields (.ref N) .none 0 0) (by rw [h3 S hSa hSs, Hp.put_ne hSa]; exact hB.s) (by rw [h3 D hDa hDs, Hp.put_ne hDa]; exact hB.d) (v := .ref N) rfl rfl ?_
  repeat' walk_at "go"
  refine OpU.setItem_dict eN (by simp [n2iOf, sizeLine_eq]; exact o18 hl) ?_
  refine TA.name hE s0 ?_
  repeat' walk_at "go"
  have ep : dput (n2iOf l) v (.ref a) = n2iOf (l ++ [⟨v, a, sa, 0, []⟩]) := by
   unfold dput dhas; rw [n2i_miss hin]; simp [n2iOf]
  refine h (l ++ [⟨v, a, sa, 0, []⟩]) _ ⟨v, a, sa, 0, []⟩ (hB.new hin ha hsa (Ne.symm hne) (by rw [Hp.put_ne (Ne.symm hNa)]; exact h1) (by rw [Hp.put_ne (Ne.symm hNs)]; exact h2) (by rw [Hp.put_at, ep]) fun b b1 b2 b3 => by rw [Hp.put_ne b3, h3 b b1 b2, Hp.put_ne b1]) ?_ (by simp) rfl
  unfold gEns; rw [hk, if_neg (by simp; exact hin)]; simp [Nd.pr]
theorem tc_getinfo {n : Nat} (P : Prg s₀ mg mb) (C : Cls s₀ K) (r : Room A (n + 3)) {v : Int} (hB : Bld H0 H S D N l) (hl : l.length ≤ 1000) {Q : V → Hp → Prop} (h : ∀ l' H' d, Bld H0 H' S D N l' → l'.map Nd.pr = gEns (l.map Nd.pr) v → d ∈ l' → d.k = v → Q (.ref d.a) H') :
  TC prog w s₀ A (.raw (.ref 94)) [.ref S, .int v] Q H := by
 obtain ⟨p, hp, hat⟩ := C.a1
 refine TCd.tc ?_
 have e := def_eq hp rfl
 have hpar := congrArg DefParts.params e
 have hs := congrArg DefParts.scope e
 dsimp only at hs hpar
 refine TCd.at (names := [Str.ofString "self", Str.ofString "node"]) hat r.lt (by rw [hs]; rfl) rfl (fun n q kv dc pm an cd ct xs hx => ?_) (by rw [hs]; rfl) (fun n q kv dc pm an cd ct L => ?_)
 ·obtain ⟨x0, x1, rfl⟩ := Mine.len2 hx; unfold mkFd; rw [hpar]; rfl
 exact getinfo_body p hp L P C (r.deeper _) hB hl h
end
section
open PySem.Calls
variable {H0 : Hp} {S D N : Addr} {l : List Nd} {K : Frag}
noncomputable def gAdd (g : Gr) (v : Int) (ps : List Int) : Gr := ps.foldl (fun g u => gSc (gEns g u) u v) (gNp (gEns g v) v ps.length)
theorem nodup_at {α β : Type} {f : α → β} : ∀ {l : List α}, (l.map f).Nodup → ∀ {a b : α}, a ∈ l → b ∈ l → f a = f b → a = b
 | [], _, _, _, h, _, _ => nomatch h
 | c :: l, nd, a, b, ha, hb, e => by
  rw [List.map_cons, List.nodup_cons] at nd
  rcases List.mem_cons.mp ha with h1 | h1
  ·rcases List.mem_cons.mp hb with h2 | h2
   ·rw [h1, h2]
   ·exact (nd.1 (by rw [← h1, e]; exact List.mem_map_of_mem h2)).elim
  ·rcases List.mem_cons.mp hb with h2 | h2
   ·exact (nd.1 (by rw [← h2, ← e]; exact List.mem_map_of_mem h1)).elim
   ·exact nodup_at nd.2 h1 h2 e
noncomputable def Nd.np' (v n : Int) (x : Nd) : Nd := if x.k = v then { x with np := x.np + n } else x
noncomputable def Nd.sc' (u v : Int) (x : Nd) : Nd := if x.k = u then { x with sc := x.sc ++ [v] } else x
theorem pr_np (v n : Int) (l : List Nd) : (l.map (Nd.np' v n)).map Nd.pr = gNp (l.map Nd.pr) v n := by
 simp only [gNp, List.map_map]
 refine List.map_congr_left fun x _ => ?_
 by_cases hk : x.k = v <;> simp [Nd.np', Nd.pr, hk]
theorem pr_sc (u v : Int) (l : List Nd) : (l.map (Nd.sc' u v)).map Nd.pr = gSc (l.map Nd.pr) u v := by
 simp only [gSc, List.map_map]
 refine List.map_congr_left fun x _ => ?_
 by_cases hk : x.k = u <;> simp [Nd.sc', Nd.pr, hk]
theorem Bld.setNp (h : Bld H0 H S D N l) {d : Nd} (hd : d ∈ l) (n : Int) : Bld H0 (H.put d.a (.node 54 [some (.int d.k), some (.int (d.np + n)), some (.ref d.sa)])) S D N (l.map (Nd.np' d.k n)) := by
 walk_at "H,H0,S,D,N,l,d,n|h,hd"
 obtain ⟨o1, o2, o3, o4⟩ := h.o d hd
 obtain ⟨n1, n2, n3⟩ := h.other o1 (fun _ _ q => by cases q) (fun _ q => by cases q) (fun _ q => by cases q)
 refine h.map (fun x => ?_) (Hp.put_ne n1.symm) (Hp.put_ne n2.symm) (Hp.put_ne n3.symm) (fun x hx => ?_) (fun b o e => ?_)
 ·unfold Nd.np'; split <;> exact ⟨rfl, rfl, rfl⟩
 ·walk_at "x|hx"
  obtain ⟨p1, p2, _, _⟩ := h.o x hx
  have hne : x.sa ≠ d.a := fun q => by rw [q, o1] at p2; cases p2
  by_cases hk : x.k = d.k
  ·obtain rfl := nodup_at h.nd hx hd hk
   rw [Hp.put_at, Hp.put_ne hne]
   exact ⟨by simp [Nd.np'], by rw [p2]; simp [Nd.np']⟩
  ·have ha : x.a ≠ d.a := fun q => hk (by rw [nodup_at h.nda hx hd q])
   rw [Hp.put_ne ha, Hp.put_ne hne]
   exact ⟨by rw [p1]; simp [Nd.np', hk], by rw [p2]; simp [Nd.np', hk]⟩
 ·rw [Hp.put_ne (fun q => by rw [q, o3] at e; cases e)]; exact h.keep b o e
theorem Bld.setSc (h : Bld H0 H S D N l) {d : Nd} (hd : d ∈ l) (v : Int) : Bld H0 (H.put d.sa (.list (intsV (d.sc ++ [v])))) S D N (l.map (Nd.sc' d.k v)) := by
 walk_at "H,H0,S,D,N,l,d,v|h,hd"
 obtain ⟨o1, o2, o3, o4⟩ := h.o d hd
 obtain ⟨n1, n2, n3⟩ := h.other o2 (fun _ _ q => by cases q) (fun _ q => by cases q) (fun _ q => by cases q)
 refine h.map (fun x => ?_) (Hp.put_ne n1.symm) (Hp.put_ne n2.symm) (Hp.put_ne n3.symm) (fun x hx => ?_) (fun b o e => ?_)
 ·unfold Nd.sc'; split <;> exact ⟨rfl, rfl, rfl⟩
 ·walk_at "x|hx"
  obtain ⟨p1, p2, _, _⟩ := h.o x hx
  have hne : x.a ≠ d.sa := fun q => by rw [q, o2] at p1; cases p1
  by_cases hk : x.k = d.k
  ·obtain rfl := nodup_at h.nd hx hd hk
   rw [Hp.put_at, Hp.put_ne hne]
   exact ⟨by rw [p1]; simp [Nd.sc'], by simp [Nd.sc']⟩
  ·have ha : x.sa ≠ d.sa := fun q => hk (by rw [nodup_at h.nds hx hd q])
   rw [Hp.put_ne ha, Hp.put_ne hne]
   exact ⟨by rw [p1]; simp [Nd.sc', hk], by rw [p2]; simp [Nd.sc', hk]⟩
 ·rw [Hp.put_ne (fun q => by rw [q, o4] at e; cases e)]; exact h.keep b o e
theorem gEns_len (g : Gr) (v : Int) : (gEns g v).length ≤ g.length + 1 := by unfold gEns; split <;> simp
noncomputable def gBig (g : Gr) (c : Nat) : Prop := ∀ x ∈ g, x.2.2.length ≤ c
theorem gBig.ens {g : Gr} {c : Nat} (h : gBig g c) (v : Int) : gBig (gEns g v) c := by
 intro x hx
 unfold gEns at hx
 split at hx
 ·exact h x hx
 ·rcases List.mem_append.mp hx with h1 | h1
  ·exact h x h1
  ·cases List.mem_singleton.mp h1; simp
theorem gBig.np {g : Gr} {c : Nat} (h : gBig g c) (v n : Int) : gBig (gNp g v n) c := by
 intro x hx
 obtain ⟨y, hy, rfl⟩ := List.mem_map.mp hx
 have := h y hy
 split <;> simpa using this
theorem gBig.sc {g : Gr} {c : Nat} (h : gBig g c) (u v : Int) : gBig (gSc g u v) (c + 1) := by
 intro x hx
 obtain ⟨y, hy, rfl⟩ := List.mem_map.mp hx
 have := h y hy
 split <;> simp <;> omega
theorem gBig.fold {g : Gr} {c : Nat} (h : gBig g c) (v : Int) : ∀ (ps : List Int), gBig (ps.foldl (fun g u => gSc (gEns g u) u v) g) (c + ps.length)
 | [] => h
 | u :: ps => by
  have := gBig.fold ((h.ens u).sc u v) v ps
  rw [List.foldl_cons, List.length_cons, show c + (ps.length + 1) = c + 1 + ps.length from by exact o100]
  exact this
theorem gFold_len (v : Int) : ∀ (ps : List Int) (g : Gr), (ps.foldl (fun g u => gSc (gEns g u) u v) g).length ≤ g.length + ps.length
 | [], g => Nat.le_refl _
 | u :: ps, g => by
  have h1 := gFold_len v ps (gSc (gEns g u) u v)
  have h2 := gEns_len g u
  have h3 : (gSc (gEns g u) u v).length = (gEns g u).length := by simp [gSc]
  rw [List.foldl_cons, List.length_cons]; exact o101 h1 h2 h3
theorem gBig.add {g : Gr} {c : Nat} (h : gBig g c) (v : Int) (ps : List Int) : gBig (gAdd g v ps) (c + ps.length) := ((h.ens v).np v _).fold v ps
theorem gAdd_len (g : Gr) (v : Int) (ps : List Int) : (gAdd g v ps).length ≤ g.length + 1 + ps.length := by
 have h1 := gFold_len v ps (gNp (gEns g v) v ps.length)
 have h2 := gEns_len g v
 have h3 : (gNp (gEns g v) v ps.length).length = (gEns g v).length := by simp [gNp]
 unfold gAdd; exact o102 h1 h2 h3
theorem intsV_get {ps : List Int} {i : Nat} {x : V} (hx : (intsV ps)[i]? = some x) : ∃ z, ps[i]? = some z ∧ x = V.int z := by
 walk_at "ps,i,x|hx"
 rw [intsV, List.getElem?_map] at hx
 cases e : ps[i]? with
 | none => rw [e] at hx; cases hx
 | some z => rw [e] at hx; cases hx; exact ⟨z, rfl, rfl⟩
theorem add_body (p : DefParts) (hp : clsDef 12 2 = some p) {fa : Addr} {n q : Str} {dv kv dc pm : Value} {an : Option Addr} {cd ct : Value} (L : Addr) (P : Prg s₀ mg mb) (C : Cls s₀ K) {rn : Nat} (r : Room A (rn + 3))
  {v : Int} {ps : List Int} (hB : Bld H0 H S D N l) (hl : l.length + ps.length ≤ 800) (hsc : gBig (l.map Nd.pr) 800) {Q : V → Hp → Prop} (h : ∀ l' H', Bld H0 H' S D N l' → l'.map Nd.pr = gAdd (l.map Nd.pr) v ps → Q .none H') :
  TS prog w s₀ A (callEnv (mkFd p n q dv kv dc pm an cd ct) L fa) p.body (fun f _ H1 => Q (retV f) H1) (Loc.ofArgs [(Str.ofString "self", V.ref S), (Str.ofString "node", V.int v), (Str.ofString "predecessors", V.tup (intsV ps))]) H := by
 walk_at "prog,w,s₀,H,A,mg,mb,H0,S,D,N,l,K,p,fa,n,q,dv,kv,dc,pm,an,cd,ct,L,rn,v,ps,Q|hp,P,C,r,hB,hl,hsc,h"
 simp only [Loc.ofArgs, List.foldl]
 have e := def_eq hp rfl
 have hb := congrArg DefParts.body e
 have hs := congrArg DefParts.scope e
 dsimp only at hb hs
 rw [hb]
 generalize henv : callEnv (mkFd p n q dv kv dc pm an cd ct) L fa = env
 obtain ⟨hE, hsc⟩ := env_of henv hs rfl rfl rfl rfl
 have k0 := held_of "self" hsc rfl
 have k1 := held_of "node" hsc rfl
 have k2 := held_of "predecessors" hsc rfl
 have k3 := held_of "nodeinfo" hsc rfl
 have k4 := held_of "pred" hsc rfl
 have k5 := held_of "pred_info" hsc rfl
 have s0 := stored_of "nodeinfo" hsc rfl
 have s1 := stored_of "pred" hsc rfl
 have s2 := stored_of "pred_info" hsc rfl
 have g0 := kind_g "len" hsc rfl
 have hG := P.G
 have v0 := P.nlen
 have b0 := boot_len
 have q0 : KeepOk prog w s₀ (.raw (.builtin "len")) := keep_bi _
 clear hsc henv hs hb e hp
 have kg : KeepOk prog w s₀ (.raw (.ref 94)) := by obtain ⟨p, _, h⟩ := C.a1; exact keep_at h
 have ka : KeepOk prog w s₀ (.raw (.builtin "list.append")) := keep_bi _
 repeat' walk_at "go"
 refine Op1.field C.x C.fR hB.s hB.d (v := .none) rfl rfl ?_
 repeat' walk_at "go"
 refine Op2.notNone_no ?_
 repeat' walk_at "go"
 refine OpM.inst C.x C.m1 hB.s hB.d rfl ?_
 repeat' walk_at "go"
 refine tc_getinfo P C r hB (by exact o103 hl) fun l1 H1 d hB1 hpr1 hd hdk => ?_
 walk_at "l1,H1,d|hB1,hpr1,hd,hdk"
 obtain rfl := hdk
 obtain ⟨o1, _, _, _⟩ := hB1.o d hd
 repeat' walk_at "go"
 refine Op1.slot C.x C.t1 o1 rfl rfl ?_
 repeat' walk_at "go"
 refine TC.len_tup (by simp [intsV]; exact o104 hl) ?_
 repeat' walk_at "go"
 refine OpU.slot C.x C.t1 o1 ?_
 have hB2 := hB1.setNp hd ps.length
 have hpr2 : (l1.map (Nd.np' d.k ps.length)).map Nd.pr = gNp (gEns (l.map Nd.pr) d.k) d.k ps.length := by rw [pr_np, hpr1]
 have e2 : (H1.put d.a (.node 54 (slput [some (.int d.k), some (.int d.np), some (.ref d.sa)] 1 (.int (d.np + ps.length))))) = (H1.put d.a (.node 54 [some (.int d.k), some (.int (d.np + ps.length)), some (.ref d.sa)])) := rfl
 have e3 : ((intsV ps).length : Int) = ps.length := by simp [intsV]
 rw [e3, e2]
 clear e3 e2 o1
 generalize H1.put d.a (.node 54 [some (.int d.k), some (.int (d.np + ps.length)), some (.ref d.sa)]) = H2 at *
 generalize l1.map (Nd.np' d.k ps.length) = l2 at *
 generalize d.k = v at *
 have hg2 := gBig.np (hsc.ens v) v ps.length
 have hgl : (gNp (gEns (l.map Nd.pr) v) v ps.length).length ≤ l.length + 1 := by have := gEns_len (l.map Nd.pr) v; simp only [gNp, List.length_map] at this ⊢; exact o105 this
 refine TS.cons (T1.fors ?_)
 repeat' walk_at "go"
 refine ⟨_, OpIt.tup r.h, fun i m' H' => ∃ l', Bld H0 H' S D N l' ∧ l'.map Nd.pr = (ps.take i).foldl (fun g u => gSc (gEns g u) u v) (gNp (gEns (l.map Nd.pr) v) v ps.length) ∧
  Has m' [(Str.ofString "self", V.ref S), (Str.ofString "node", V.int v)], ⟨l2, hB2, hpr2, by walk_at "has"⟩, ?_, ?_⟩
 ·rintro i x m' H' hx ⟨l', hB', hpr', hm⟩
  walk_at "i,x,m',H',l'|hx,hB',hpr',hm"
  obtain ⟨u, hu, rfl⟩ := intsV_get hx
  walk_at "u|hu,hx"
  have hi := (List.getElem?_eq_some_iff.mp hu).1
  have hb' := hg2.fold v (ps.take i)
  have hl' := gFold_len v (ps.take i) (gNp (gEns (l.map Nd.pr) v) v ps.length)
  rw [List.length_take] at hb' hl'
  rw [← hpr'] at hb' hl'
  rw [List.length_map] at hl'
  refine TA.has hm ?_
  simp only [Loc.ofArgs, List.foldl]
  refine TA.name hE s1 ?_
  repeat' walk_at "go"
  refine OpM.inst C.x C.m1 hB'.s hB'.d rfl ?_
  repeat' walk_at "go"
  refine tc_getinfo P C r hB' (by exact o106 hl hgl hl') fun l3 H3 d3 hB3 hpr3 hd3 hdk => ?_
  walk_at "l3,H3,d3|hB3,hpr3,hd3,hdk"
  obtain rfl := hdk
  obtain ⟨o1, o2, _, _⟩ := hB3.o d3 hd3
  have hb3 := hb'.ens d3.k
  rw [← hpr3] at hb3
  have hs3 : d3.sc.length ≤ 1600 := by have : d3.sc.length ≤ _ := hb3 d3.pr (List.mem_map_of_mem hd3); exact o107 hl this
  repeat' walk_at "go"
  refine Op1.slot C.x C.t2 o1 rfl rfl ?_
  refine OpM.list o2 slot_list_append (by rfl) ?_
  repeat' walk_at "go"
  refine TC.append o2 (by simp only [intsV, List.length_map, sizeLine_eq]; exact o108 hs3) ?_
  repeat' walk_at "go"
  have e4 : intsV d3.sc ++ [V.int v] = intsV (d3.sc ++ [v]) := by simp [intsV]
  rw [e4]
  refine ⟨_, hB3.setSc hd3 v, ?_, by walk_at "has"⟩
  rw [pr_sc, hpr3, hpr', List.take_add_one, hu, List.foldl_append]
  rfl
 ·rintro m' H' ⟨l', hB', hpr', hm⟩
  repeat' walk_at "go"
  refine h l' H' hB' ?_
  rw [hpr', List.take_of_length_le (by simp [intsV])]
  rfl
end
section
open PySem.Calls
variable {H0 : Hp} {S D N : Addr} {l : List Nd} {K : Frag}
theorem tc_add {n : Nat} (P : Prg s₀ mg mb) (C : Cls s₀ K) (r : Room A (n + 4)) {v : Int} {ps : List Int} (hB : Bld H0 H S D N l) (hl : l.length + ps.length ≤ 800) (hsc : gBig (l.map Nd.pr) 800) {Q : V → Hp → Prop} (h : ∀ l' H', Bld H0 H' S D N l' → l'.map Nd.pr = gAdd (l.map Nd.pr) v ps → Q .none H') :
  TCd prog w s₀ A (.raw (.ref 101)) (.ref S :: .int v :: intsV ps) Q H := by
 obtain ⟨p, hp, hat⟩ := C.a2
 have e := def_eq hp rfl
 have hpar := congrArg DefParts.params e
 have hs := congrArg DefParts.scope e
 dsimp only at hs hpar
 obtain ⟨o, n, q, kv, dc, pm, an, cd, ct, h1, h2, h3⟩ := hat.ex
 refine TCd.defn h1 h2 h3 rfl r.lt (by show plainScope p.scope = true; rw [hs]; rfl) (TBind.star (names := [Str.ofString "self", Str.ofString "node"]) (va := Str.ofString "predecessors") (vs := [.ref S, .int v]) (us := intsV ps) rfl (fun xs ys hx => ?_) (by simp only [intsV, List.length_map, sizeLine_eq]; exact o109 hl)) (show (List.all ([Str.ofString "self", Str.ofString "node"].zip [V.ref S, V.int v] ++ [(Str.ofString "predecessors", V.tup (intsV ps))]) fun x => decide (p.scope.names.lookup x.1 = some NameKind.local)) = true from by rw [hs]; rfl) fun L => ?_
 ·obtain ⟨x, y, rfl⟩ := len2 hx
  unfold mkFd; rw [hpar]
  unfold bindArgs
  dsimp only [List.map, Option.isNone, Option.isSome]
  simp only [Bool.and_false]
  rfl
 ·rw [ofArgs_lookup]
  exact add_body p hp L P C (r.deeper _) hB hl hsc h
noncomputable def gInit (nd : List (Int × List Int)) : Gr := nd.foldl (fun g e => gAdd g e.1 e.2) []
noncomputable abbrev kvL (nd : List (Int × List Int)) : List (Int × V) := kvM (fun ps => V.lst (intsV ps)) nd
theorem gFoldAdd {c : Nat} : ∀ (nd : List (Int × List Int)) (g : Gr) (b : Nat), (∀ e ∈ nd, e.2.length ≤ c) → gBig g b → gBig (nd.foldl (fun g e => gAdd g e.1 e.2) g) (b + nd.length * c) ∧ (nd.foldl (fun g e => gAdd g e.1 e.2) g).length ≤ g.length + nd.length * (c + 1)
 | [], g, b, _, hb => by simp; exact hb
 | e :: nd, g, b, he, hb => by
  have h0 := he e (by simp)
  have h1 : gBig (gAdd g e.1 e.2) (b + c) := fun x hx => Nat.le_trans (hb.add e.1 e.2 x hx) (by exact o38 h0)
  have h2 := gAdd_len g e.1 e.2
  obtain ⟨h3, h4⟩ := gFoldAdd nd (gAdd g e.1 e.2) (b + c) (fun x hx => he x (by simp [hx])) h1
  simp only [List.foldl_cons, List.length_cons, Nat.succ_mul]
  refine ⟨fun x hx => Nat.le_trans (h3 x hx) (by exact o110), by exact o111 h0 h2 h4⟩
theorem init_body (p : DefParts) (hp : clsDef 12 0 = some p) {fa : Addr} {n q : Str} {dv kv dc pm : Value} {an : Option Addr} {cd ct : Value} (L : Addr) (P : Prg s₀ mg mb) (C : Cls s₀ K) {rn : Nat} (r : Room A (rn + 4))
  {nd : List (Int × List Int)} (hz : nd.length ≤ 20) (hz' : ∀ e ∈ nd, e.2.length ≤ 20) (hS : H S = some (.inst 151 D)) (hD : H D = some (.ns [])) (hk : ∀ a o, H0 a = some o → H a = some o) (h0S : H0 S = none) (h0D : H0 D = none) (hSD : S ≠ D)
  {Q : V → Hp → Prop} (h : ∀ N l' H', Bld H0 H' S D N l' → l'.map Nd.pr = gInit nd → Q .none H') :
  TS prog w s₀ A (callEnv (mkFd p n q dv kv dc pm an cd ct) L fa) p.body (fun f _ H1 => Q (retV f) H1) (Loc.ofArgs [(Str.ofString "self", V.ref S), (Str.ofString "graph", V.dct (kvL nd))]) H := by
 walk_at "prog,w,s₀,H,A,mg,mb,H0,S,D,K,p,fa,n,q,dv,kv,dc,pm,an,cd,ct,L,rn,nd,Q|hp,P,C,r,hz,hz',hS,hD,hk,h0S,h0D,hSD,h"
 simp only [Loc.ofArgs, List.foldl]
 have e := def_eq hp rfl
 have hb := congrArg DefParts.body e
 have hs := congrArg DefParts.scope e
 dsimp only at hb hs
 rw [hb]
 generalize henv : callEnv (mkFd p n q dv kv dc pm an cd ct) L fa = env
 obtain ⟨hE, hsc⟩ := env_of henv hs rfl rfl rfl rfl
 have k0 := held_of "self" hsc rfl
 have k1 := held_of "graph" hsc rfl
 have k2 := held_of "node" hsc rfl
 have k3 := held_of "predecessors" hsc rfl
 have s0 := stored_of "node" hsc rfl
 have s1 := stored_of "predecessors" hsc rfl
 have hG := P.G
 clear hsc henv hs hb e hp
 have ki : KeepOk prog w s₀ (.raw (.builtin "dict.items")) := keep_bi _
 repeat' walk_at "go"
 refine TE.dict0 fun N hN => ?_
 walk_at "N|hN"
 have hSN : S ≠ N := fun q => by rw [q, hN] at hS; cases hS
 have hDN : D ≠ N := fun q => by rw [q, hN] at hD; cases hD
 have h0N : H0 N = none := by
  cases e : H0 N with
  | none => rfl
  | some o => rw [hk _ _ e] at hN; cases hN
 repeat' walk_at "go"
 refine OpU.field C.x C.fN (C := 151) (D := D) (f := []) (by rw [Hp.put_ne hSN]; exact hS) (by rw [Hp.put_ne hDN]; exact hD) (by simp) ?_
 repeat' walk_at "go"
 refine OpU.field C.x C.fR (C := 151) (D := D) (f := fput [] (Str.ofString "_node2info") (.ref N)) (by rw [Hp.put_ne hSD, Hp.put_ne hSN]; exact hS) Hp.put_at (by simp [fput]) ?_
 rw [Hp.put_put]
 repeat' walk_at "go"
 refine OpU.field C.x C.fP (C := 151) (D := D) (f := fput (fput [] (Str.ofString "_node2info") (.ref N)) (Str.ofString "_ready_nodes") .none) (by rw [Hp.put_ne hSD, Hp.put_ne hSN]; exact hS) Hp.put_at (by simp [fput, ofString_eq]) ?_
 rw [Hp.put_put]
 repeat' walk_at "go"
 refine OpU.field C.x C.fF (C := 151) (D := D) (f := fput (fput (fput [] (Str.ofString "_node2info") (.ref N)) (Str.ofString "_ready_nodes") .none) (Str.ofString "_npassedout") (.int 0)) (by rw [Hp.put_ne hSD, Hp.put_ne hSN]; exact hS) Hp.put_at (by simp [fput, ofString_eq]) ?_
 rw [Hp.put_put]
 have ef : fput (fput (fput (fput [] (Str.ofString "_node2info") (.ref N)) (Str.ofString "_ready_nodes") .none) (Str.ofString "_npassedout") (.int 0)) (Str.ofString "_nfinished") (.int 0) = fields (.ref N) .none 0 0 := by simp [fput, ofString_eq, fields]
 rw [ef]
 have hB : Bld H0 ((H.put N (.dict [])).put D (.ns (fields (.ref N) .none 0 0))) S D N [] := by
  refine ⟨by rw [Hp.put_ne hSD, Hp.put_ne hSN]; exact hS, Hp.put_at, by rw [Hp.put_ne (Ne.symm hDN)]; exact Hp.put_at, by simp, by simp, by simp, by simp, fun a o e => ?_, h0S, h0D, h0N⟩
  rw [Hp.put_ne (fun q => by rw [q, h0D] at e; cases e), Hp.put_ne (fun q => by rw [q, h0N] at e; cases e)]
  exact hk a o e
 generalize (H.put N (.dict [])).put D (.ns (fields (.ref N) .none 0 0)) = H1 at *
 clear ef hS hD hN hSN hDN h0N hk h0S h0D hSD
 repeat' walk_at "go"
 refine Op2.notNone_yes rfl ?_
 repeat' walk_at "go"
 refine T1.for_items r.h ?_
 repeat' walk_at "go"
 refine OpM.dct F.slot_dict_items (by rfl) ?_
 repeat' walk_at "go"
 refine TC.items ?_
 refine ⟨_, rfl, fun i m' H' => ∃ l', Bld H0 H' S D N l' ∧ l'.map Nd.pr = gInit (nd.take i) ∧ Has m' [(Str.ofString "self", V.ref S)], ⟨[], hB, rfl, by walk_at "has"⟩, ?_, ?_⟩
 ·rintro i k u m' H' hx ⟨l', hB', hpr', hm⟩
  walk_at "i,k,u,m',H',l'|hx,hB',hpr',hm"
  obtain ⟨ps, hu, rfl⟩ : ∃ ps, nd[i]? = some (k, ps) ∧ u = .lst (intsV ps) := by
   rw [kvL, kvM, List.getElem?_map] at hx
   cases e : nd[i]? with
   | none => rw [e] at hx; cases hx
   | some z => rw [e] at hx; cases hx; exact ⟨z.2, rfl, rfl⟩
  walk_at "ps|hu,hx"
  have hi := (List.getElem?_eq_some_iff.mp hu).1
  have hps := hz' _ (List.mem_of_getElem? hu)
  dsimp only at hps
  obtain ⟨hg1, hg2⟩ := gFoldAdd (c := 20) (nd.take i) [] 0 (fun e he => hz' e (List.mem_of_mem_take he)) (fun x hx => nomatch hx)
  rw [List.length_take] at hg1 hg2
  rw [show ((nd.take i).foldl (fun g e => gAdd g e.1 e.2) []) = gInit (nd.take i) from rfl, ← hpr'] at hg1 hg2
  rw [List.length_map] at hg2
  simp only [List.length_nil] at hg2
  have hm20 : min i nd.length * 20 ≤ 400 := by exact o112 hz
  refine TA.has hm ?_
  simp only [Loc.ofArgs, List.foldl]
  refine TA.tup r.h rfl ?_
  refine TA.name hE s0 (TA.name hE s1 ?_)
  show TS prog w s₀ A env _ _ _ _
  refine TS.cons (T1.expr hE ?_)
  refine TE.meth_star C.x ?_
  repeat' walk_at "go"
  refine Op1.bound C.x C.m2 C.fN.h C.g2 C.tk2 (by decide +kernel) hB'.s hB'.d rfl ?_
  refine ⟨101, S, rfl, C.fn2, ?_⟩
  repeat' walk_at "go"
  refine TL.star ?_
  repeat' walk_at "go"
  refine ⟨_, rfl, by simp only [intsV, List.length_map, sizeLine_eq]; exact o113 hps, ?_⟩
  repeat' walk_at "go"
  rw [List.append_nil]
  refine TCd.tc (TCd.bm ?_)
  refine tc_add P C r hB' (by omega) (fun x hx => Nat.le_trans (hg1 x hx) (by exact o114 hz)) fun l2 H2 hB2 hpr2 => ?_
  repeat' walk_at "go"
  refine ⟨l2, hB2, ?_, by walk_at "has"⟩
  rw [hpr2, hpr', List.take_add_one, hu, gInit, gInit, List.foldl_append]
  rfl
 ·rintro m' H' ⟨l', hB', hpr', hm⟩
  repeat' walk_at "go"
  refine h N l' H' hB' ?_
  rw [hpr', List.take_of_length_le (by simp [kvM])]
end
section
/-! depth first search: what its stack and its finished nodes say -/
section
variable (sc : Int → List Int)
noncomputable def Below (fin : List Int) : Int → List (Int × Nat) → Prop
 | _, [] => True
 | u, (v, i) :: r => (∃ j, i = j + 1 ∧ (sc v)[j]? = some u ∧ ∀ (k : Nat) x, k < j → (sc v)[k]? = some x → x ∈ fin) ∧ Below fin v r
noncomputable def Work (fin : List Int) : List (Int × Nat) → Prop
 | [] => True
 | (v, i) :: r => (∀ (k : Nat) x, k < i → (sc v)[k]? = some x → x ∈ fin) ∧ i ≤ (sc v).length ∧ Below sc fin v r
noncomputable def Fin (fin : List Int) : Prop := ∀ pre u post, fin = pre ++ u :: post → ∀ v ∈ sc u, v ∈ pre
structure Dfs (ks fin : List Int) (tk : List (Int × Nat)) : Prop where
 nd : (fin ++ tk.map (·.1)).Nodup
 sub : ∀ v ∈ fin ++ tk.map (·.1), v ∈ ks
 topo : Fin sc fin
noncomputable def used (fin : List Int) (tk : List (Int × Nat)) : Nat := (fin.map fun v => (sc v).length).sum + (tk.map (·.2)).sum
end
variable {sc : Int → List Int} {ks fin : List Int} {tk : List (Int × Nat)} {u v : Int} {i : Nat}
theorem Below.mono {fin' : List Int} (h : ∀ x ∈ fin, x ∈ fin') : ∀ {u : Int} {tk : List (Int × Nat)}, Below sc fin u tk → Below sc fin' u tk
 | _, [], _ => trivial
 | _, (_, _) :: _, ⟨⟨j, e, a, b⟩, r⟩ => ⟨⟨j, e, a, fun k x hk hx => h x (b k x hk hx)⟩, r.mono h⟩
theorem Below.inside : ∀ {u : Int} {tk : List (Int × Nat)}, Below sc fin u tk → ∀ p ∈ tk, p.2 ≤ (sc p.1).length
 | _, [], _, _, h => nomatch h
 | _, (v, i) :: r, ⟨⟨j, e, a, b⟩, q⟩, p, hp => by
  rcases List.mem_cons.mp hp with rfl | hp
  ·have := (List.getElem?_eq_some_iff.mp a).1
   show i ≤ (sc v).length; exact o63 e this
  ·exact q.inside p hp
theorem work_old (h : Below sc fin u tk) (hu : u ∈ fin) : Work sc fin tk := by
 match tk, h with
 | [], _ => trivial
 | (v, i) :: r, ⟨⟨j, e, a, b⟩, q⟩ =>
  refine ⟨fun k x hk hx => ?_, ?_, q⟩
  ·by_cases hkj : k < j
   ·exact b k x hkj hx
   ·obtain rfl : k = j := by exact o238 e hk hkj
    rw [a] at hx; cases hx; exact hu
  ·have := (List.getElem?_eq_some_iff.mp a).1; exact o63 e this
theorem work_new (h : Below sc fin u tk) : Work sc fin ((u, 0) :: tk) := ⟨fun k x hk _ => absurd hk (Nat.not_lt_zero _), Nat.zero_le _, h⟩
theorem work_next (h : Work sc fin ((v, i) :: tk)) (hu : (sc v)[i]? = some u) : Below sc fin u ((v, i + 1) :: tk) := ⟨⟨i, rfl, hu, h.1⟩, h.2.2⟩
theorem work_pop (h : Work sc fin ((v, i) :: tk)) : Work sc (fin ++ [v]) tk := work_old (h.2.2.mono fun x hx => by simp [hx]) (by simp)
theorem Dfs.push (d : Dfs sc ks fin tk) (hu : u ∈ ks) (hf : u ∉ fin) (ht : u ∉ tk.map (·.1)) : Dfs sc ks fin ((u, 0) :: tk) where
 nd := by
  have := d.nd
  rw [List.nodup_append] at this ⊢
  refine ⟨this.1, ?_, fun a ha b hb => ?_⟩
  ·rw [List.map_cons, List.nodup_cons]; exact ⟨ht, this.2.1⟩
  ·rw [List.map_cons] at hb
   rcases List.mem_cons.mp hb with rfl | hb
   ·intro e; exact hf (by rw [← e]; exact ha)
   ·exact this.2.2 a ha b hb
 sub x hx := by
  rw [List.map_cons, List.mem_append, List.mem_cons] at hx
  rcases hx with hx | rfl | hx
  ·exact d.sub x (List.mem_append.mpr (.inl hx))
  ·exact hu
  ·exact d.sub x (List.mem_append.mpr (.inr hx))
 topo := d.topo
theorem Dfs.bump (d : Dfs sc ks fin ((v, i) :: tk)) (j : Nat) : Dfs sc ks fin ((v, j) :: tk) := ⟨d.nd, d.sub, d.topo⟩
theorem Fin.snoc (h : Fin sc fin) (hv : ∀ x ∈ sc v, x ∈ fin) : Fin sc (fin ++ [v]) := by
 intro pre u post e x hx
 rcases List.eq_nil_or_concat post with rfl | ⟨post', y, rfl⟩
 ·obtain ⟨rfl, e2⟩ := List.append_inj' e rfl
  cases e2
  exact hv x hx
 ·have e : fin ++ [v] = (pre ++ u :: post') ++ [y] := by rw [e]; simp
  obtain ⟨rfl, _⟩ := List.append_inj' e rfl
  exact h pre u post' rfl x hx
theorem Dfs.pop (d : Dfs sc ks fin ((v, i) :: tk)) (h : Work sc fin ((v, i) :: tk)) (hi : (sc v)[i]? = none) : Dfs sc ks (fin ++ [v]) tk where
 nd := by simpa using d.nd
 sub x hx := d.sub x (by simpa using hx)
 topo := by
  refine d.topo.snoc fun x hx => ?_
  obtain ⟨k, hk, e⟩ := List.getElem_of_mem hx
  have := List.getElem?_eq_none_iff.mp hi
  exact h.1 k x (by omega) (by rw [List.getElem?_eq_getElem hk, e])
theorem used_pop (h : Work sc fin ((v, i) :: tk)) (hi : (sc v)[i]? = none) : used sc (fin ++ [v]) tk = used sc fin ((v, i) :: tk) := by
 have h1 := List.getElem?_eq_none_iff.mp hi
 have h2 := h.2.1
 simp only [used, List.map_append, List.sum_append, List.map_cons, List.sum_cons, List.map_nil, List.sum_nil]
 exact o239 h1 h2
theorem used_next : used sc fin ((v, i + 1) :: tk) = used sc fin ((v, i) :: tk) + 1 := by simp only [used, List.map_cons, List.sum_cons]; exact o240
theorem used_push : used sc fin ((u, 0) :: tk) = used sc fin tk := by simp [used]
theorem sum_erase {f : Int → Nat} : ∀ {r : List Int} {a : Int}, a ∈ r → (r.map f).sum = f a + ((r.erase a).map f).sum
 | [], _, h => nomatch h
 | b :: r, a, h => by
  by_cases e : b = a
  ·subst e; simp
  ·rw [List.erase_cons_tail (by simpa using e), List.map_cons, List.map_cons, List.sum_cons, List.sum_cons, sum_erase ((List.mem_cons.mp h).resolve_left (fun q => e q.symm))]; exact o241
theorem sum_sub {f : Int → Nat} : ∀ {l r : List Int}, l.Nodup → (∀ a ∈ l, a ∈ r) → (l.map f).sum ≤ (r.map f).sum
 | [], r, _, _ => by simp
 | a :: l, r, nd, h => by
  obtain ⟨n1, n2⟩ := List.nodup_cons.mp nd
  have := sum_sub (f := f) (l := l) (r := r.erase a) n2 (fun b hb => (List.mem_erase_of_ne (fun q : b = a => n1 (q ▸ hb))).mpr (h b (by simp [hb])))
  rw [List.map_cons, List.sum_cons, sum_erase (h a (by simp))]; exact o38 this
theorem sum_le {f g : (Int × Nat) → Nat} : ∀ {l : List (Int × Nat)}, (∀ p ∈ l, f p ≤ g p) → (l.map f).sum ≤ (l.map g).sum
 | [], _ => by simp
 | p :: l, h => by have := sum_le (l := l) (fun q hq => h q (by simp [hq])); have := h p (by simp); simp only [List.map_cons, List.sum_cons]; omega
theorem used_le (d : Dfs sc ks fin tk) (h : ∀ p ∈ tk, p.2 ≤ (sc p.1).length) : used sc fin tk ≤ (ks.map fun v => (sc v).length).sum := by
 have h1 := sum_sub (f := fun v => (sc v).length) d.nd d.sub
 have h2 := sum_le (f := (·.2)) (g := fun p => (sc p.1).length) h
 rw [List.map_append, List.sum_append, List.map_map] at h1
 have h3 : (tk.map fun p => (sc p.1).length) = tk.map ((fun v => (sc v).length) ∘ (·.1)) := rfl
 unfold used
 rw [h3] at h2
 exact o242 h1 h2
noncomputable def Chain (sc : Int → List Int) (l : List Int) : Prop := ∀ (k : Nat) a b, l[k]? = some a → l[k + 1]? = some b → b ∈ sc a
theorem Chain.snoc {l : List Int} (h : Chain sc (l ++ [v])) (hu : u ∈ sc v) : Chain sc (l ++ [v] ++ [u]) := by
 intro k a b ha hb
 by_cases hk : k + 1 < (l ++ [v]).length
 ·rw [List.getElem?_append_left (by exact o59 hk)] at ha
  rw [List.getElem?_append_left hk] at hb
  exact h k a b ha hb
 ·have hk2 : k + 1 < (l ++ [v] ++ [u]).length := (List.getElem?_eq_some_iff.mp hb).1
  have hk3 : k = l.length := by simp at hk hk2; exact o243 hk hk2
  subst hk3
  simp at ha hb
  subst ha hb
  exact hu
theorem Chain.drop {l : List Int} (h : Chain sc l) (n : Nat) : Chain sc (l.drop n) := fun k a b ha hb => by
 rw [List.getElem?_drop] at ha hb
 exact h (n + k) a b ha (by rw [← hb]; rfl)
theorem below_chain : ∀ {u : Int} {tk : List (Int × Nat)}, Below sc fin u tk → Chain sc ((tk.map (·.1)).reverse ++ [u])
 | _, [], _ => fun k a b _ hb => by simp at hb
 | u, (v, i) :: r, ⟨⟨j, e, a, b⟩, q⟩ => by
  have := below_chain q
  rw [List.map_cons, List.reverse_cons]
  exact this.snoc (List.mem_of_getElem? a)
structure Ring (sc : Int → List Int) (ks ring : List Int) : Prop where
 ch : Chain sc ring
 ends : ring[0]? = ring[ring.length - 1]?
 two : 2 ≤ ring.length
 sub : ∀ v ∈ ring, v ∈ ks
theorem below_ring {n : Nat} (d : Dfs sc ks fin tk) (h : Below sc fin u tk) (hn : ((tk.map (·.1)).reverse)[n]? = some u) : Ring sc ks (((tk.map (·.1)).reverse).drop n ++ [u]) := by
 have hl := (List.getElem?_eq_some_iff.mp hn).1
 have e : ((tk.map (·.1)).reverse).drop n ++ [u] = ((tk.map (·.1)).reverse ++ [u]).drop n := by rw [List.drop_append_of_le_length (by exact o244 hl)]
 refine ⟨by rw [e]; exact (below_chain h).drop n, ?_, by rw [List.length_append, List.length_drop]; simp only [List.length_singleton]; exact o245 hl, fun v hv => ?_⟩
 ·rw [List.getElem?_append_left (by rw [List.length_drop]; exact o246 hl), List.getElem?_drop, Nat.add_zero, hn]
  simp
 ·refine d.sub v ?_
  rw [List.mem_append] at hv ⊢
  refine .inr ?_
  rcases hv with hv | hv
  ·exact List.mem_reverse.mp (List.mem_of_mem_drop hv)
  ·cases List.mem_singleton.mp hv
   exact List.mem_reverse.mp (List.mem_of_getElem? hn)
end
section
/-! the graph that the sorter is told -/
noncomputable abbrev gv (g : Gr) (k : Int) : Int × List Int := (gget g k).getD (0, [])
theorem gget_map {α : Type} {g : List (Int × α)} (f : Int → α → α) (k : Int) : gget (g.map fun x => (x.1, f x.1 x.2)) k = (gget g k).map (f k) := by
 unfold gget
 induction g with
 | nil => rfl
 | cons x g ih =>
  simp only [List.map_cons, List.find?_cons]
  by_cases h : x.1 = k
  ·subst h; simp
  ·simp only [h, decide_false]; exact ih
theorem gget_append {α : Type} (a b : List (Int × α)) (k : Int) : gget (a ++ b) k = (gget a k).or (gget b k) := by
 unfold gget; rw [List.find?_append]; cases List.find? (fun kv => decide (kv.1 = k)) a <;> rfl
theorem gEns_get (g : Gr) (v k : Int) : gget (gEns g v) k = if k = v then some (gv g v) else gget g k := by
 walk_at "g,v,k|"
 have hs : g.any (·.1 == v) = (gget g v).isSome := by
  unfold gget
  rw [Option.isSome_map]
  induction g with
  | nil => rfl
  | cons x g ih =>
   rw [List.any_cons, List.find?_cons]
   by_cases h : x.1 = v
   ·simp [h]
   ·simp only [h, decide_false]; rw [← ih]; simp [h]
 unfold gEns
 rw [hs]
 cases h : gget g v with
 | some p =>
  simp only [Option.isSome_some, if_true]
  by_cases e : k = v
  ·rw [if_pos e, e, h, gv, h]; rfl
  ·rw [if_neg e]
 | none =>
  simp only [Option.isSome_none, Bool.false_eq_true, if_false]
  rw [gget_append]
  by_cases e : k = v
  ·rw [if_pos e, e, h, gv, h]; simp [gget]
  ·rw [if_neg e]
   have : gget ([(v, 0, [])] : Gr) k = none := by simp [gget, Ne.symm e]
   rw [this]; cases gget g k <;> rfl
theorem gNp_get (g : Gr) (v n k : Int) : gget (gNp g v n) k = (gget g k).map fun p => if k = v then (p.1 + n, p.2) else p := by
 have : gNp g v n = g.map fun x => (x.1, (fun (k : Int) (p : Int × List Int) => if k = v then (p.1 + n, p.2) else p) x.1 x.2) := by
  unfold gNp
  refine List.map_congr_left fun x _ => ?_
  dsimp only; split <;> rfl
 rw [this]
 exact gget_map (fun (k : Int) (p : Int × List Int) => if k = v then (p.1 + n, p.2) else p) k
theorem gSc_get (g : Gr) (u v k : Int) : gget (gSc g u v) k = (gget g k).map fun p => if k = u then (p.1, p.2 ++ [v]) else p := by
 have : gSc g u v = g.map fun x => (x.1, (fun (k : Int) (p : Int × List Int) => if k = u then (p.1, p.2 ++ [v]) else p) x.1 x.2) := by
  unfold gSc
  refine List.map_congr_left fun x _ => ?_
  dsimp only; split <;> rfl
 rw [this]
 exact gget_map (fun (k : Int) (p : Int × List Int) => if k = u then (p.1, p.2 ++ [v]) else p) k
theorem gFold_get (v : Int) : ∀ (ps : List Int) (g : Gr), ps.Nodup → ∀ k, gget (ps.foldl (fun g u => gSc (gEns g u) u v) g) k = if k ∈ ps then some ((gv g k).1, (gv g k).2 ++ [v]) else gget g k := by
 walk_at "v|"
 intro xs0
 induction xs0 with
 | nil => exact fun g _ k => by simp
 | cons u ps ih =>
  intro g nd k
  walk_at "u,ps,g,k|ih,nd"
  obtain ⟨n1, n2⟩ := List.nodup_cons.mp nd
  rw [List.foldl_cons, ih _ n2 k]
  have e : gget (gSc (gEns g u) u v) k = if k = u then some ((gv g u).1, (gv g u).2 ++ [v]) else gget g k := by
   rw [gSc_get, gEns_get]
   by_cases h : k = u
   ·simp [h]
   ·rw [if_neg h, if_neg h]; cases gget g k <;> simp [h]
  by_cases h : k = u
  ·subst h
   rw [if_neg n1, e, if_pos rfl, if_pos (by simp)]
  ·have em : (k ∈ u :: ps) ↔ k ∈ ps := by simp [h]
   have eg : gv (gSc (gEns g u) u v) k = gv g k := by unfold gv; rw [e, if_neg h]
   rw [e, if_neg h, eg]
   by_cases hk : k ∈ ps
   ·rw [if_pos hk, if_pos (em.mpr hk)]
   ·rw [if_neg hk, if_neg (fun q => hk (em.mp q))]
theorem gAdd_get (g : Gr) (v : Int) (ps : List Int) (nd : ps.Nodup) (k : Int) : gget (gAdd g v ps) k = if k = v ∨ k ∈ ps then some ((gv g k).1 + (if k = v then (ps.length : Int) else 0), (gv g k).2 ++ (if k ∈ ps then [v] else [])) else gget g k := by
 walk_at "g,v,ps,k|nd"
 unfold gAdd
 rw [gFold_get v ps _ nd k]
 have e : gget (gNp (gEns g v) v ps.length) k = if k = v then some ((gv g v).1 + ps.length, (gv g v).2) else gget g k := by
  rw [gNp_get, gEns_get]
  by_cases h : k = v
  ·simp [h]
  ·rw [if_neg h, if_neg h]; cases gget g k <;> simp [h]
 by_cases h : k = v
 ·subst h
  have eg : gv (gNp (gEns g k) k ps.length) k = ((gv g k).1 + ps.length, (gv g k).2) := by unfold gv; rw [e, if_pos rfl]; rfl
  rw [e, eg]
  by_cases hp : k ∈ ps <;> simp [hp]
 ·have eg : gv (gNp (gEns g v) v ps.length) k = gv g k := by unfold gv; rw [e, if_neg h]
  rw [e, eg]
  by_cases hp : k ∈ ps <;> simp [hp, h]
theorem gAdd_val (g : Gr) (v : Int) (ps : List Int) (nd : ps.Nodup) (k : Int) : gv (gAdd g v ps) k = ((gv g k).1 + (if k = v then (ps.length : Int) else 0), (gv g k).2 ++ (if k ∈ ps then [v] else [])) ∧ ((gget (gAdd g v ps) k).isSome = true ↔ (gget g k).isSome = true ∨ k = v ∨ k ∈ ps) := by
 walk_at "g,v,ps,k|nd"
 have h := gAdd_get g v ps nd k
 by_cases hk : k = v ∨ k ∈ ps
 ·rw [if_pos hk] at h
  exact ⟨by show (gget _ k).getD _ = _; rw [h]; rfl, by rw [h]; simp [hk]⟩
 ·rw [if_neg hk] at h
  refine ⟨?_, by rw [h]; simp [hk]⟩
  rw [not_or] at hk
  show (gget _ k).getD _ = _
  rw [h, if_neg hk.1, if_neg hk.2]
  simp
theorem gInit_val (k : Int) : ∀ (nd : List (Int × List Int)) (g : Gr), (∀ e ∈ nd, e.2.Nodup) →
  gv (nd.foldl (fun g e => gAdd g e.1 e.2) g) k = ((gv g k).1 + ((nd.filter fun e => decide (e.1 = k)).map fun e => (e.2.length : Int)).sum, (gv g k).2 ++ (nd.filter fun e => decide (k ∈ e.2)).map (·.1)) ∧
   ((gget (nd.foldl (fun g e => gAdd g e.1 e.2) g) k).isSome = true ↔ (gget g k).isSome = true ∨ ∃ e ∈ nd, k = e.1 ∨ k ∈ e.2) := by
 walk_at "k|"
 intro xs0
 induction xs0 with
 | nil => exact fun g _ => by simp
 | cons e nd ih =>
  intro g h
  walk_at "e,nd,g|ih,h"
  obtain ⟨h1, h2⟩ := ih (gAdd g e.1 e.2) (fun x hx => h x (by simp [hx]))
  obtain ⟨h3, h4⟩ := gAdd_val g e.1 e.2 (h e (by simp)) k
  rw [List.foldl_cons]
  refine ⟨?_, ?_⟩
  ·rw [h1, h3]
   have c1 : decide (e.1 = k) = decide (k = e.1) := by simp [eq_comm]
   rw [List.filter_cons, List.filter_cons, c1]
   have f1 : ∀ {a : Prop} [Decidable a], a → decide a = true := fun h => decide_eq_true h
   have f2 : ∀ {a : Prop} [Decidable a], ¬ a → ¬ decide a = true := fun h q => h (of_decide_eq_true q)
   by_cases a : k = e.1
   ·by_cases b : k ∈ e.2
    ·rw [if_pos a, if_pos b, if_pos (f1 a), if_pos (f1 b)]; simp [Int.add_assoc]
    ·rw [if_pos a, if_neg b, if_pos (f1 a), if_neg (f2 b)]; simp [Int.add_assoc]
   ·by_cases b : k ∈ e.2
    ·rw [if_neg a, if_pos b, if_neg (f2 a), if_pos (f1 b)]; simp
    ·rw [if_neg a, if_neg b, if_neg (f2 a), if_neg (f2 b)]; simp
  ·rw [h2, h4]
   constructor
   ·rintro ((q | q) | ⟨x, hx, q⟩)
    ·exact .inl q
    ·exact .inr ⟨e, by simp, q⟩
    ·exact .inr ⟨x, by simp [hx], q⟩
   ·rintro (q | ⟨x, hx, q⟩)
    ·exact .inl (.inl q)
    ·rcases List.mem_cons.mp hx with rfl | hx
     ·exact .inl (.inr q)
     ·exact .inr ⟨x, hx, q⟩
variable {T : List Tab} {t : Tab}
theorem needs_val (nd : (ks t).Nodup) {k : Int} (hk : k ∈ ks t) : gget (gInit (needsL T t)) k = some (((needsP T t k).length : Int), (ks t).filter fun v => decide (k ∈ needsP T t v)) := by
 walk_at "T,t,k|nd,hk"
 have hnd : ∀ e ∈ needsL T t, e.2.Nodup := fun e he => by
  obtain ⟨v, _, rfl⟩ := List.mem_map.mp he
  exact List.Nodup.sublist List.filter_sublist nd
 obtain ⟨h1, h2⟩ := gInit_val k (needsL T t) [] hnd
 have h3 := h2.mpr (.inr ⟨(k, needsP T t k), List.mem_map_of_mem (f := fun v => (v, needsP T t v)) hk, .inl rfl⟩)
 obtain ⟨p, hp⟩ := Option.isSome_iff_exists.mp h3
 walk_at "p|hp"
 have e1 : (((needsL T t).filter fun e => decide (e.1 = k)).map fun e => (e.2.length : Int)).sum = (needsP T t k).length := by
  unfold needsL
  rw [List.filter_map, List.map_map]
  have : ∀ l : List Int, l.Nodup → k ∈ l → l.filter ((fun e : Int × List Int => decide (e.1 = k)) ∘ fun v => (v, needsP T t v)) = [k] := by
   intro l
   walk_at "l|"
   induction l with
   | nil => intro _ h; cases h
   | cons a l ih =>
    walk_at "a,l|ih"
    intro n h
    obtain ⟨n1, n2⟩ := List.nodup_cons.mp n
    rw [List.filter_cons]
    by_cases e : a = k
    ·subst e
     have : l.filter ((fun e : Int × List Int => decide (e.1 = a)) ∘ fun v => (v, needsP T t v)) = [] := by
      rw [List.filter_eq_nil_iff]
      intro x hx q
      have : x = a := by simpa using q
      exact n1 (this ▸ hx)
     simp [this]
    ·simp only [Function.comp_apply, e, decide_false, Bool.false_eq_true, if_false]
     exact ih n2 ((List.mem_cons.mp h).resolve_left (fun q => e q.symm))
  rw [this _ nd hk]
  simp
 have e2 : ((needsL T t).filter fun e => decide (k ∈ e.2)).map (·.1) = (ks t).filter fun v => decide (k ∈ needsP T t v) := by
  unfold needsL
  rw [List.filter_map, List.map_map]
  exact List.map_id _
 rw [e1, e2] at h1
 unfold gInit
 rw [hp]
 unfold gv at h1
 rw [hp] at h1
 simpa [gget] using h1
theorem needs_keys (k : Int) (nd : (ks t).Nodup) : (gget (gInit (needsL T t)) k).isSome = true ↔ k ∈ ks t := by
 walk_at "T,t,k|nd"
 have hnd : ∀ e ∈ needsL T t, e.2.Nodup := fun e he => by
  obtain ⟨v, _, rfl⟩ := List.mem_map.mp he
  exact List.Nodup.sublist List.filter_sublist nd
 obtain ⟨_, h2⟩ := gInit_val k (needsL T t) [] hnd
 unfold gInit
 rw [h2]
 constructor
 ·rintro (q | ⟨e, he, q⟩)
  ·cases q
  ·obtain ⟨v, hv, rfl⟩ := List.mem_map.mp he
   rcases q with rfl | q
   ·exact hv
   ·exact (List.mem_filter.mp q).1
 ·exact fun h => .inr ⟨_, List.mem_map_of_mem (f := fun v => (v, needsP T t v)) h, .inl rfl⟩
structure NdOk (T : List Tab) (t : Tab) (l : List Nd) : Prop where
 nd : (l.map (·.k)).Nodup
 kk : ∀ v, v ∈ l.map (·.k) ↔ v ∈ ks t
 np : ∀ d ∈ l, d.np = (needsP T t d.k).length
 sc : ∀ d ∈ l, d.sc = (ks t).filter fun v => decide (d.k ∈ needsP T t v)
theorem NdOk.of {l : List Nd} (nd : (ks t).Nodup) (ndl : (l.map (·.k)).Nodup) (h : l.map Nd.pr = gInit (needsL T t)) : NdOk T t l := by
 have ek : (gInit (needsL T t)).map (·.1) = l.map (·.k) := by rw [← h, List.map_map]; rfl
 have hget : ∀ d ∈ l, gget (gInit (needsL T t)) d.k = some (d.np, d.sc) := fun d hd => by
  have : d.pr ∈ gInit (needsL T t) := by rw [← h]; exact List.mem_map_of_mem hd
  exact gget_mem (by rw [ek]; exact ndl) this
 have hks : ∀ v, v ∈ l.map (·.k) ↔ v ∈ ks t := fun v => by
  rw [← needs_keys (T := T) v nd, ← ek]
  unfold gget
  rw [Option.isSome_map, List.find?_isSome, List.mem_map]
  exact ⟨fun ⟨x, hx, e⟩ => ⟨x, hx, by simpa using e⟩, fun ⟨x, hx, e⟩ => ⟨x, hx, by simpa using e⟩⟩
 refine ⟨ndl, hks, fun d hd => ?_, fun d hd => ?_⟩
 ·have := hget d hd
  rw [needs_val nd ((hks _).mp (List.mem_map_of_mem hd))] at this
  exact (congrArg Prod.fst (Option.some.inj this)).symm
 ·have := hget d hd
  rw [needs_val nd ((hks _).mp (List.mem_map_of_mem hd))] at this
  exact (congrArg Prod.snd (Option.some.inj this)).symm
end
section
open PySem.Calls
variable {H0 : Hp} {S D N : Addr} {l : List Nd} {K : Frag}
theorem tc_sorter {n : Nat} (P : Prg s₀ mg mb) (C : Cls s₀ K) (r : Room A (n + 6)) {nd : List (Int × List Int)} (hz : nd.length ≤ 20) (hz' : ∀ e ∈ nd, e.2.length ≤ 20) {Q : V → Hp → Prop} (h : ∀ S D N l' H', Bld H H' S D N l' → l'.map Nd.pr = gInit nd → Q (.ref S) H') :
  TC prog w s₀ A (.raw (.ref 151)) [.dct (kvL nd)] Q H := by
 walk_at "prog,w,s₀,H,A,mg,mb,K,n,nd,Q|P,C,r,hz,hz',h"
 refine (TC.make C.x C.mkS fun D S A' hA1 hA2 hA3 hA4 hD hS hne => ?_).tc
 walk_at "D,S,A'|hA1,hA2,hA3,hA4,hD,hS,hne"
 have r' : Room A' (n + 5) := ⟨hA2.trans r.h, by have := r.d; exact o115 hA3 this, by have := r.u; exact o116 hA4 this⟩
 obtain ⟨p, T, oT, nT, hp, hat, hT, hTd⟩ := C.a0
 walk_at "p,T,oT,nT|hp,hat,hT,hTd"
 have e := def_eq hp rfl
 have hpar := congrArg DefParts.params e
 have hs := congrArg DefParts.scope e
 dsimp only at hs hpar
 obtain ⟨o, n, q, kv, dc, pm, an, cd, ct, h1, h2, h3⟩ := hat.ex
 walk_at "o,n,q,kv,dc,pm,an,cd,ct|h1,h2,h3"
 refine TCd.defn h1 h2 h3 rfl r'.lt (by show plainScope p.scope = true; rw [hs]; rfl) (TBind.dflt (names := [Str.ofString "self", Str.ofString "graph"]) (vs := [.ref S, .dct (kvL nd)]) rfl rfl hT hTd (fun xs hx => ?_)) (show (List.all ([Str.ofString "self", Str.ofString "graph"].zip [V.ref S, V.dct (kvL nd)]) fun x => decide (p.scope.names.lookup x.1 = some NameKind.local)) = true from by rw [hs]; rfl) fun L => ?_
 ·obtain ⟨x, y, rfl⟩ := Mine.len2 hx; exact ⟨_, (by unfold mkFd; rw [hpar]; rfl), rfl⟩
 ·rw [ofArgs_lookup]
  refine init_body p hp L P C (r'.deeper _) hz hz' (Q := fun r H1 => r = .none ∧ Q (.ref S) H1) (H0 := H) Hp.put_at (by rw [Hp.put_ne hne.symm]; exact Hp.put_at) (fun a o e => ?_) hS hD hne fun N l' H' a b => ⟨rfl, h _ _ _ _ _ a b⟩
  rw [Hp.put_ne (fun q => by rw [q, hS] at e; cases e), Hp.put_ne (fun q => by rw [q, hD] at e; cases e)]
  exact e
structure Srt (H0 H : Hp) (S D : Addr) (l : List Nd) (rd : V) (p f : Int) : Prop where
 s : H S = some (.inst 151 D)
 d : H D = some (.ns (fields (.dct (n2iOf l)) rd p f))
 nd : (l.map (·.k)).Nodup
 nda : (l.map (·.a)).Nodup
 o : ∀ d ∈ l, H d.a = some (.node 54 [some (.int d.k), some (.int d.np), some (.lst (intsV d.sc))])
 keep : ∀ a o, H0 a = some o → H a = some o
 fr : H0 S = none ∧ H0 D = none ∧ ∀ d ∈ l, H0 d.a = none
theorem View.nodes : ∀ (l : List Nd) (H : Hp), (∀ d ∈ l, H d.a = some (.node 54 [some (.int d.k), some (.int d.np), some (.ref d.sa)]) ∧ H d.sa = some (.list (intsV d.sc))) → (l.map (·.a)).Nodup → (l.map (·.sa)).Nodup →
  ∃ H', View prog w s₀ H H' ∧ (∀ d ∈ l, H' d.a = some (.node 54 [some (.int d.k), some (.int d.np), some (.lst (intsV d.sc))])) ∧ ∀ b o, (∀ d ∈ l, b ≠ d.a ∧ b ≠ d.sa) → H b = some o → H' b = some o := by
 walk_at "prog,w,s₀|"
 intro xs0
 induction xs0 with
 | nil => exact fun H _ _ _ => ⟨H, .refl, by simp, fun _ _ _ e => e⟩
 | cons d l ih =>
  intro H h na ns
  walk_at "d,l,H|ih,h,na,ns"
  obtain ⟨h1, h2⟩ := h d (by simp)
  rw [List.map_cons, List.nodup_cons] at na ns
  have v := View.slot_list (prog := prog) (w := w) (s₀ := s₀) (i := 2) h1 h2 rfl
  have hne : ∀ d' ∈ l, d'.a ≠ d.a ∧ d'.a ≠ d.sa ∧ d'.sa ≠ d.a ∧ d'.sa ≠ d.sa := fun d' hd => by
   obtain ⟨g1, g2⟩ := h d' (by simp [hd])
   exact ⟨fun q => na.1 (by rw [← q]; exact List.mem_map_of_mem (f := (·.a)) hd), fun q => (by rw [q, h2] at g1; cases g1), fun q => (by rw [q, h1] at g2; cases g2), fun q => ns.1 (by rw [← q]; exact List.mem_map_of_mem (f := (·.sa)) hd)⟩
  have hst : ∀ b o, b ≠ d.a → b ≠ d.sa → H b = some o → ((H.del d.sa).put d.a (.node 54 ([some (.int d.k), some (.int d.np), some (.ref d.sa)].set 2 (some (.lst (intsV d.sc)))))) b = some o := fun b o b1 b2 e => by
   rw [Hp.put_ne b1]; unfold Hp.del; rw [if_neg b2]; exact e
  obtain ⟨H', v', k1, k2⟩ := ih _ (fun d' hd => by
   obtain ⟨g1, g2⟩ := h d' (by simp [hd])
   obtain ⟨n1, n2, n3, n4⟩ := hne d' hd
   exact ⟨hst _ _ n1 n2 g1, hst _ _ n3 n4 g2⟩) na.2 ns.2
  refine ⟨H', v.trans v', fun d' hd => ?_, fun b o hb e => ?_⟩
  ·rcases List.mem_cons.mp hd with rfl | hd
   ·exact k2 _ _ (fun x hx => ⟨(hne x hx).1.symm, (hne x hx).2.2.1.symm⟩) Hp.put_at
   ·exact k1 d' hd
  ·exact k2 b o (fun x hx => hb x (by simp [hx])) (hst b o (hb d (by simp)).1 (hb d (by simp)).2 e)
theorem Bld.frozen (h : Bld H0 H S D N l) : ∃ H', View prog w s₀ H H' ∧ Srt H0 H' S D l .none 0 0 := by
 walk_at "prog,w,s₀,H,H0,S,D,N,l|h"
 have hND : N ≠ D := fun q => by have := h.n; rw [q, h.d] at this; cases this
 have v := View.ns_dict (prog := prog) (w := w) (s₀ := s₀) h.d h.n (n := Str.ofString "_node2info") rfl
 have hk : ∀ b o, b ≠ D → b ≠ N → H b = some o → ((H.del N).put D (.ns (fput (fields (.ref N) .none 0 0) (Str.ofString "_node2info") (.dct (n2iOf l))))) b = some o := fun b o b1 b2 e => by
  rw [Hp.put_ne b1]; unfold Hp.del; rw [if_neg b2]; exact e
 have hno : ∀ d ∈ l, d.a ≠ D ∧ d.a ≠ N ∧ d.sa ≠ D ∧ d.sa ≠ N ∧ d.a ≠ S ∧ d.sa ≠ S := fun d hd => by
  walk_at "d|hd"
  obtain ⟨o1, o2, _, _⟩ := h.o d hd
  exact ⟨fun q => (by rw [q, h.d] at o1; cases o1), fun q => (by rw [q, h.n] at o1; cases o1), fun q => (by rw [q, h.d] at o2; cases o2), fun q => (by rw [q, h.n] at o2; cases o2), fun q => (by rw [q, h.s] at o1; cases o1), fun q => (by rw [q, h.s] at o2; cases o2)⟩
 have hSN : S ≠ N := fun q => by have := h.s; rw [q, h.n] at this; cases this
 have hSD : S ≠ D := fun q => by have := h.s; rw [q, h.d] at this; cases this
 obtain ⟨H', v', k1, k2⟩ := View.nodes (prog := prog) (w := w) (s₀ := s₀) l _ (fun d hd => by
  walk_at "d|hd"
  obtain ⟨o1, o2, _, _⟩ := h.o d hd
  obtain ⟨n1, n2, n3, n4, _, _⟩ := hno d hd
  exact ⟨hk _ _ n1 n2 o1, hk _ _ n3 n4 o2⟩) h.nda h.nds
 refine ⟨H', v.trans v', ⟨k2 _ _ (fun d hd => ⟨(hno d hd).2.2.2.2.1.symm, (hno d hd).2.2.2.2.2.symm⟩) (hk _ _ hSD hSN h.s), ?_, h.nd, h.nda, k1, fun a o e => ?_, h.fr.1, h.fr.2.1, fun d hd => (h.o d hd).2.2.1⟩⟩
 ·have e : fput (fields (.ref N) .none 0 0) (Str.ofString "_node2info") (.dct (n2iOf l)) = fields (.dct (n2iOf l)) .none 0 0 := by simp [fput, fields]
  exact k2 _ _ (fun d hd => ⟨(hno d hd).1.symm, (hno d hd).2.2.1.symm⟩) (by rw [Hp.put_at, e])
 ·refine k2 _ _ (fun d hd => ?_) (hk _ _ (fun q => ?_) (fun q => ?_) (h.keep _ _ e))
  ·obtain ⟨_, _, o3, o4⟩ := h.o d hd
   exact ⟨fun q => (by rw [q, o3] at e; cases e), fun q => (by rw [q, o4] at e; cases e)⟩
  ·rw [q, h.fr.2.1] at e; cases e
  ·rw [q, h.fr.2.2] at e; cases e
end
section
open PySem.Calls
variable {H0 : Hp} {S D N : Addr} {l : List Nd} {K : Frag}
noncomputable def scOf (l : List Nd) (v : Int) : List Int := ((l.find? fun d => decide (d.k = v)).map (·.sc)).getD []
theorem scOf_at : ∀ {l : List Nd}, (l.map (·.k)).Nodup → ∀ {d : Nd}, d ∈ l → scOf l d.k = d.sc := fun {l} nd {d} hd => by
 have h : ∃ x, l.find? (fun x => decide (x.k = d.k)) = some x := Option.isSome_iff_exists.mp (List.find?_isSome.mpr ⟨d, hd, by simp⟩)
 obtain ⟨x, e⟩ := h
 have h1 := List.mem_of_find?_eq_some e
 have h2 : x.k = d.k := by simpa using List.find?_some e
 obtain rfl := nodup_at nd h1 hd h2
 unfold scOf; rw [e]; rfl
noncomputable def nsk : List (Int × Nat) → List (Int × V)
 | [] => []
 | p :: r => nsk r ++ [(p.1, .int r.length)]
theorem dget_append (a b : List (Int × V)) (k : Int) : dget (a ++ b) k = (dget a k).or (dget b k) := by
 unfold dget; rw [List.find?_append]; cases List.find? (fun kv => decide (kv.1 = k)) a <;> rfl
theorem nsk_miss {v : Int} : ∀ {tk : List (Int × Nat)}, v ∉ tk.map (·.1) → dget (nsk tk) v = none
 | [], _ => rfl
 | p :: r, h => by
  rw [List.map_cons, List.mem_cons, not_or] at h
  rw [nsk, dget_append, nsk_miss h.2]
  simp [dget, Ne.symm h.1]
theorem nsk_get {v : Int} : ∀ {tk : List (Int × Nat)}, (tk.map (·.1)).Nodup → v ∈ tk.map (·.1) → ∃ n : Nat, dget (nsk tk) v = some (.int n) ∧ ((tk.map (·.1)).reverse)[n]? = some v
 | [], _, h => nomatch h
 | p :: r, nd, h => by
  rw [List.map_cons, List.nodup_cons] at nd
  rw [List.map_cons] at h
  by_cases e : v ∈ r.map (·.1)
  ·obtain ⟨n, h1, h2⟩ := nsk_get nd.2 e
   refine ⟨n, by rw [nsk, dget_append, h1]; rfl, ?_⟩
   rw [List.map_cons, List.reverse_cons, List.getElem?_append_left (List.getElem?_eq_some_iff.mp h2).1]; exact h2
  ·obtain rfl := (List.mem_cons.mp h).resolve_right e
   refine ⟨r.length, by rw [nsk, dget_append, nsk_miss e]; simp [dget], ?_⟩
   rw [List.map_cons, List.reverse_cons, List.getElem?_append_right (by simp)]; simp
theorem nsk_has {v : Int} {tk : List (Int × Nat)} (nd : (tk.map (·.1)).Nodup) : dhas (nsk tk) v = decide (v ∈ tk.map (·.1)) := by
 unfold dhas
 by_cases e : v ∈ tk.map (·.1)
 ·obtain ⟨n, h1, _⟩ := nsk_get nd e
  rw [h1, decide_eq_true e]; rfl
 ·rw [nsk_miss e, decide_eq_false e]; rfl
theorem nsk_put {v : Int} {tk : List (Int × Nat)} (h : v ∉ tk.map (·.1)) (i : Nat) : dput (nsk tk) v (.int tk.length) = nsk ((v, i) :: tk) := by
 unfold dput dhas; rw [nsk_miss h]; rfl
theorem nsk_del {p : Int × Nat} {r : List (Int × Nat)} (h : p.1 ∉ r.map (·.1)) : ddel (nsk (p :: r)) p.1 = nsk r := by
 unfold ddel
 rw [nsk, List.filter_append]
 have h1 : (nsk r).filter (fun kv => decide (kv.1 ≠ p.1)) = nsk r := by
  refine List.filter_eq_self.mpr fun kv hk => ?_
  have : ∀ {r : List (Int × Nat)}, kv ∈ nsk r → kv.1 ∈ r.map (·.1) := by
   intro r
   induction r with
   | nil => intro h; cases h
   | cons q r ih =>
    intro h
    rw [nsk] at h
    rcases List.mem_append.mp h with h | h
    ·simp [ih h]
    ·cases List.mem_singleton.mp h; simp
  simp only [decide_eq_true_eq]
  exact fun q => h (q ▸ this hk)
 rw [h1]
 simp
theorem nsk_len : ∀ (tk : List (Int × Nat)), (nsk tk).length = tk.length
 | [] => rfl
 | p :: r => by simp [nsk, nsk_len r]
structure Fch (H0 H : Hp) (sc : Int → List Int) (aS aI aE aD : Addr) (fin : List Int) (tk : List (Int × Nat)) (its : List Addr) (Sf : Int → Bool) (n : Nat) : Prop where
 s : H aS = some (.list (intsV (tk.map (·.1)).reverse))
 i : H aI = some (.list (its.map V.nx).reverse)
 e : H aE = some (.set Sf n)
 d : H aD = some (.dict (nsk tk))
 ln : its.length = tk.length
 nd : its.Nodup
 it : ∀ (j : Nat) a p, its[j]? = some a → tk[j]? = some p → H a = some (.iter (intsV (sc p.1)) p.2) ∧ H0 a = none
 sf : ∀ v, Sf v = true ↔ v ∈ fin ∨ v ∈ tk.map (·.1)
 nn : n = fin.length + tk.length
 k : ∀ a o, H0 a = some o → H a = some o
 fr : H0 aS = none ∧ H0 aI = none ∧ H0 aE = none ∧ H0 aD = none
 ne : aS ≠ aI
variable {sc : Int → List Int} {aS aI aE aD : Addr} {fin ks : List Int} {tk : List (Int × Nat)} {its : List Addr} {Sf : Int → Bool} {n : Nat} {u v : Int} {i : Nat}
theorem Fch.apart (h : Fch H0 H sc aS aI aE aD fin tk its Sf n) : aS ≠ aE ∧ aS ≠ aD ∧ aI ≠ aE ∧ aI ≠ aD ∧ aE ≠ aD :=
 ⟨fun q => (by have := h.s; rw [q, h.e] at this; cases this), fun q => (by have := h.s; rw [q, h.d] at this; cases this), fun q => (by have := h.i; rw [q, h.e] at this; cases this), fun q => (by have := h.i; rw [q, h.d] at this; cases this), fun q => (by have := h.e; rw [q, h.d] at this; cases this)⟩
theorem Fch.push (h : Fch H0 H sc aS aI aE aD fin tk its Sf n) (hu : u ∉ fin) (ht : u ∉ tk.map (·.1)) {a : Addr} (ha : H a = none) {H' : Hp} (h1 : H' a = some (.iter (intsV (sc u)) 0)) (h2 : H' aS = some (.list (intsV (tk.map (·.1)).reverse ++ [.int u]))) (h3 : H' aI = some (.list ((its.map V.nx).reverse ++ [.nx a])))
  (h4 : H' aE = some (.set (fun k => Sf k || decide (k = u)) (n + 1))) (h5 : H' aD = some (.dict (dput (nsk tk) u (.int tk.length)))) (h6 : ∀ b, b ≠ a → b ≠ aS → b ≠ aI → b ≠ aE → b ≠ aD → H' b = H b) : Fch H0 H' sc aS aI aE aD fin ((u, 0) :: tk) (a :: its) (fun k => Sf k || decide (k = u)) (n + 1) where
 s := by rw [h2]; simp [intsV]
 i := by rw [h3]; simp
 e := h4
 d := by rw [h5, nsk_put ht 0]
 ln := by simp [h.ln]
 nd := List.nodup_cons.mpr ⟨fun q => (by
  obtain ⟨j, hj, e⟩ := List.getElem_of_mem q
  have := (h.it j a (tk[j]'(by rw [← h.ln]; exact hj)) (by rw [List.getElem?_eq_getElem hj, e]) (List.getElem?_eq_getElem _)).1
  rw [ha] at this; cases this), h.nd⟩
 it j b p hj hp := by
  match j with
  | 0 => cases hj; cases hp; exact ⟨h1, by
    cases e : H0 a with
    | none => rfl
    | some o => rw [h.k a o e] at ha; cases ha⟩
  | j + 1 =>
   obtain ⟨g1, g2⟩ := h.it j b p hj hp
   have hn : ∀ c o, H c = some o → (∀ xs i, o ≠ .iter xs i) → b ≠ c := fun c o e k q => by rw [q, e] at g1; exact k _ _ (Option.some.inj g1)
   refine ⟨?_, g2⟩
   rw [h6 b (fun q => by rw [q, ha] at g1; cases g1) (hn _ _ h.s (fun _ _ q => by cases q)) (hn _ _ h.i (fun _ _ q => by cases q)) (hn _ _ h.e (fun _ _ q => by cases q)) (hn _ _ h.d (fun _ _ q => by cases q))]
   exact g1
 sf v := by
  simp only [Bool.or_eq_true, decide_eq_true_eq, h.sf v, List.map_cons, List.mem_cons]
  constructor
  ·rintro ((h | h) | h)
   ·exact .inl h
   ·exact .inr (.inr h)
   ·exact .inr (.inl h)
  ·rintro (h | h | h)
   ·exact .inl (.inl h)
   ·exact .inr h
   ·exact .inl (.inr h)
 nn := by have := h.nn; simp only [List.length_cons]; exact o39 this
 k b o e := by
  obtain ⟨f1, f2, f3, f4⟩ := h.fr
  have hn : ∀ c, H0 c = none → b ≠ c := fun c hc q => by rw [q, hc] at e; cases e
  rw [h6 b (fun q => by rw [← q, h.k b o e] at ha; cases ha) (hn _ f1) (hn _ f2) (hn _ f3) (hn _ f4)]
  exact h.k b o e
 fr := h.fr
 ne := h.ne
theorem Fch.next (h : Fch H0 H sc aS aI aE aD fin ((v, i) :: tk) its Sf n) {a : Addr} {r : List Addr} (hi : its = a :: r) : Fch H0 (H.put a (.iter (intsV (sc v)) (i + 1))) sc aS aI aE aD fin ((v, i + 1) :: tk) its Sf n := by
 subst hi
 obtain ⟨g1, g2⟩ := h.it 0 a (v, i) rfl rfl
 have hn : ∀ c o, H c = some o → (∀ xs i, o ≠ .iter xs i) → c ≠ a := fun c o e k q => by rw [q, g1] at e; exact k _ _ (Option.some.inj e).symm
 refine ⟨?_, ?_, ?_, ?_, h.ln, h.nd, fun j b p hj hp => ?_, h.sf, h.nn, fun b o e => ?_, h.fr, h.ne⟩
 ·rw [Hp.put_ne (hn _ _ h.s (fun _ _ q => by cases q))]; exact h.s
 ·rw [Hp.put_ne (hn _ _ h.i (fun _ _ q => by cases q))]; exact h.i
 ·rw [Hp.put_ne (hn _ _ h.e (fun _ _ q => by cases q))]; exact h.e
 ·rw [Hp.put_ne (hn _ _ h.d (fun _ _ q => by cases q))]; exact h.d
 ·match j with
  | 0 => cases hj; cases hp; exact ⟨Hp.put_at, g2⟩
  | j + 1 =>
   obtain ⟨g3, g4⟩ := h.it (j + 1) b p hj hp
   have hba : b ≠ a := fun q => (List.nodup_cons.mp h.nd).1 (by rw [← q]; exact List.mem_of_getElem? hj)
   rw [Hp.put_ne hba]
   exact ⟨g3, g4⟩
 ·rw [Hp.put_ne (fun q => by rw [q, g2] at e; cases e)]; exact h.k b o e
theorem Fch.pop (h : Fch H0 H sc aS aI aE aD fin ((v, i) :: tk) its Sf n) {a : Addr} {r : List Addr} (hi : its = a :: r) (hv : v ∉ tk.map (·.1)) {H' : Hp} (h2 : H' aS = some (.list (intsV (tk.map (·.1)).reverse))) (h3 : H' aI = some (.list (r.map V.nx).reverse))
  (h5 : H' aD = some (.dict (ddel (nsk ((v, i) :: tk)) v))) (h6 : ∀ b, b ≠ a → b ≠ aS → b ≠ aI → b ≠ aD → H' b = H b) : Fch H0 H' sc aS aI aE aD (fin ++ [v]) tk r Sf n := by
 subst hi
 obtain ⟨g1, g2⟩ := h.it 0 a (v, i) rfl rfl
 have hn : ∀ c o, H c = some o → (∀ xs i, o ≠ .iter xs i) → c ≠ a := fun c o e k q => by rw [q, g1] at e; exact k _ _ (Option.some.inj e).symm
 obtain ⟨a1, a2, a3, a4, a5⟩ := h.apart
 refine ⟨h2, h3, ?_, ?_, by simpa using h.ln, (List.nodup_cons.mp h.nd).2, fun j b p hj hp => ?_, fun x => ?_, ?_, fun b o e => ?_, h.fr, h.ne⟩
 ·rw [h6 aE (hn _ _ h.e (fun _ _ q => by cases q)) a1.symm a3.symm a5]; exact h.e
 ·rw [h5, nsk_del hv]
 ·obtain ⟨g3, g4⟩ := h.it (j + 1) b p hj hp
  have hm : ∀ c o, H c = some o → (∀ xs i, o ≠ .iter xs i) → b ≠ c := fun c o e k q => by rw [q, e] at g3; exact k _ _ (Option.some.inj g3)
  rw [h6 b (fun q => (List.nodup_cons.mp h.nd).1 (by rw [← q]; exact List.mem_of_getElem? hj)) (hm _ _ h.s (fun _ _ q => by cases q)) (hm _ _ h.i (fun _ _ q => by cases q)) (hm _ _ h.d (fun _ _ q => by cases q))]
  exact ⟨g3, g4⟩
 ·rw [h.sf x, List.map_cons, List.mem_cons, List.mem_append, List.mem_singleton, or_assoc]
 ·have := h.nn; simp only [List.length_append, List.length_cons, List.length_nil] at this ⊢; exact o117 this
 ·obtain ⟨f1, f2, f3, f4⟩ := h.fr
  have hm : ∀ c, H0 c = none → b ≠ c := fun c hc q => by rw [q, hc] at e; cases e
  rw [h6 b (hm _ g2) (hm _ f1) (hm _ f2) (hm _ f4)]
  exact h.k b o e
end
section
/-! tight steps, rings, an order of the nodes -/
structure Fd (W : List (List Nat)) (T : List Tab) (nr : List Int) (t : Tab) : Prop where
 g : Gm W T nr
 nd : (ks t).Nodup
 d : ∀ v d, (v, d) ∈ t ↔ Dist T v d
variable {W : List (List Nat)} {T : List Tab} {nr : List Int} {t : Tab}
theorem Fd.at_ (f : Fd W T nr t) {v : Int} (h : v ∈ ks t) : (v, tv t v) ∈ t := by
 obtain ⟨e, he, rfl⟩ := List.mem_map.mp h
 have := gget_mem f.nd he
 rw [tv, this]; exact he
theorem Fd.dist (f : Fd W T nr t) {v : Int} (h : v ∈ ks t) : Dist T v (tv t v) := (f.d _ _).mp (f.at_ h)
theorem Fd.rg (f : Fd W T nr t) {v : Int} (h : v ∈ ks t) : 0 ≤ v ∧ v < 5 := by
 obtain ⟨p, hp, rfl, _⟩ := (f.dist h).at_
 exact hp.endRg f.g.ok
theorem Fd.way (f : Fd W T nr t) {p : Way} (hp : IsWay T p) : endOf p ∈ ks t := by
 have key : ∀ (n : Nat), ∀ d : Int, 0 ≤ d → d.toNat = n → (∃ q, IsWay T q ∧ endOf q = endOf p ∧ q.2 = d) → ∃ d, Dist T (endOf p) d := by
  intro n
  induction n using Nat.strongRecOn with
  | ind n ih =>
   intro d h0 hd hq
   by_cases h : ∀ q, IsWay T q → endOf q = endOf p → d ≤ q.2
   ·exact ⟨d, hq, h⟩
   ·obtain ⟨q, h1⟩ := Classical.not_forall.mp h
    obtain ⟨hw, h2⟩ := Classical.not_imp.mp h1
    obtain ⟨he, h3⟩ := Classical.not_imp.mp h2
    have := hw.pos f.g
    exact ih q.2.toNat (by exact o308 hd h1 this) q.2 this rfl ⟨q, hw, he, rfl⟩
 obtain ⟨d, hd⟩ := key _ p.2 (hp.pos f.g) rfl ⟨p, hp, rfl, rfl⟩
 exact List.mem_map_of_mem (f := (·.1)) ((f.d _ _).mpr hd)
theorem Fd.step (f : Fd W T nr t) {u v c : Int} (hu : u ∈ ks t) (he : (v, c) ∈ tabAt T u) : v ∈ ks t ∧ 0 ≤ c ∧ tv t v ≤ tv t u + c ∧ v ≠ u ∧ (c = 0 → wAt W u = wAt W v) := by
 have hr := f.rg hu
 obtain ⟨p, hp, rfl, e2⟩ := (f.dist hu).at_
 obtain ⟨q, hq, e3, e4⟩ := hp.relax f.g he
 have hv : v ∈ ks t := e3 ▸ f.way hq
 have := (f.dist hv).le q hq e3
 obtain ⟨h1, h2⟩ := f.g.pos _ _ _ hr.1 hr.2 he
 exact ⟨hv, h1, by exact o309 e2 e4 this, f.g.loop _ _ _ hr.1 hr.2 he, h2⟩
theorem gget_of {α : Type} {t : List (Int × α)} {k : Int} {c : α} (h : gget t k = some c) : (k, c) ∈ t := by
 unfold gget at h
 cases e : t.find? (fun kv => decide (kv.1 = k)) with
 | none => rw [e] at h; cases h
 | some x =>
  rw [e] at h
  cases h
  have h1 := List.mem_of_find?_eq_some e
  have h2 : x.1 = k := by simpa using List.find?_some e
  rw [← h2]; exact h1
theorem Fd.get (f : Fd W T nr t) {u v c : Int} (hu : u ∈ ks t) (he : (v, c) ∈ tabAt T u) : gget (tabAt T u) v = some c := gget_mem (f.g.ok.nd _ (tabAt_mem f.g.ok (f.rg hu))) he
theorem tgt_iff {u v : Int} : tgt T t u v = true ↔ ∃ c, gget (tabAt T u) v = some c ∧ tv t u + c = tv t v := by
 unfold tgt
 cases gget (tabAt T u) v with
 | none => simp
 | some c => simp
theorem free_iff {u v : Int} : free T u v = true ↔ gget (tabAt T u) v = some 0 := by
 unfold free
 cases gget (tabAt T u) v with
 | none => simp
 | some c => simp
theorem needs_mem {u v : Int} : u ∈ needsP T t v ↔ u ∈ ks t ∧ tgt T t u v = true := List.mem_filter
variable {l : List Nd}
theorem NdOk.succ (o : NdOk T t l) {u : Int} (hu : u ∈ ks t) : scOf l u = (ks t).filter fun v => decide (u ∈ needsP T t v) := by
 obtain ⟨d, hd, rfl⟩ := List.mem_map.mp ((o.kk u).mpr hu)
 rw [scOf_at o.nd hd, o.sc d hd]
theorem NdOk.mem (o : NdOk T t l) {u v : Int} (hu : u ∈ ks t) : v ∈ scOf l u ↔ v ∈ ks t ∧ tgt T t u v = true := by
 rw [o.succ hu, List.mem_filter, decide_eq_true_eq, needs_mem]
 exact ⟨fun h => ⟨h.1, h.2.2⟩, fun h => ⟨h.1, hu, h.2⟩⟩
theorem Fd.ring (f : Fd W T nr t) (o : NdOk T t l) {ring : List Int} (h : Ring (scOf l) (l.map (·.k)) ring) :
  (∀ (k : Nat) a b, ring[k]? = some a → ring[k + 1]? = some b → a ∈ ks t ∧ b ∈ ks t ∧ gget (tabAt T a) b = some 0 ∧ wAt W a = wAt W b) ∧ 2 < ring.length := by
 have hk : ∀ v ∈ ring, v ∈ ks t := fun v hv => (o.kk v).mp (h.sub v hv)
 have edge : ∀ (k : Nat) a b, ring[k]? = some a → ring[k + 1]? = some b → ∃ c, (b, c) ∈ tabAt T a ∧ tv t a + c = tv t b := fun k a b ha hb => by
  have hm := h.ch k a b ha hb
  have ha' := hk a (List.mem_of_getElem? ha)
  obtain ⟨c, hc, e⟩ := tgt_iff.mp ((o.mem ha').mp hm).2
  exact ⟨c, gget_of hc, e⟩
 have mono : ∀ (n k : Nat) a b, ring[k]? = some a → ring[k + n]? = some b → tv t a ≤ tv t b := by
  intro n
  induction n with
  | zero => intro k a b ha hb; rw [Nat.add_zero, ha] at hb; cases hb; exact Int.le_refl _
  | succ n ih =>
   intro k a b ha hb
   have hlt := (List.getElem?_eq_some_iff.mp hb).1
   have hc : ring[k + n]? = some ring[k + n] := List.getElem?_eq_getElem (by exact o310 hlt)
   obtain ⟨c, h1, h2⟩ := edge (k + n) _ b hc hb
   have h3 := (f.step (hk _ (List.mem_of_getElem? hc)) h1).2.1
   have := ih k a _ ha hc
   exact o311 h2 h3 this
 have h2 := h.two
 obtain ⟨x0, hx0⟩ : ∃ x, ring[0]? = some x := ⟨ring[0], List.getElem?_eq_getElem (by exact o312 h2)⟩
 have hxl : ring[ring.length - 1]? = some x0 := by rw [← h.ends]; exact hx0
 have key : ∀ (k : Nat) a b, ring[k]? = some a → ring[k + 1]? = some b → a ∈ ks t ∧ b ∈ ks t ∧ gget (tabAt T a) b = some 0 ∧ wAt W a = wAt W b := fun k a b ha hb => by
  obtain ⟨c, h3, h4⟩ := edge k a b ha hb
  have ha' := hk a (List.mem_of_getElem? ha)
  have hlt := (List.getElem?_eq_some_iff.mp hb).1
  have m1 := mono k 0 x0 a hx0 (by rw [Nat.zero_add]; exact ha)
  have m2 := mono (ring.length - 1 - (k + 1)) (k + 1) b x0 hb (by rw [show k + 1 + (ring.length - 1 - (k + 1)) = ring.length - 1 by exact o313 hlt]; exact hxl)
  obtain ⟨s1, s2, s3, s4, s5⟩ := f.step ha' h3
  have hc : c = 0 := by exact o314 h4 m1 m2 s2
  subst hc
  exact ⟨ha', s1, f.get ha' h3, s5 rfl⟩
 refine ⟨key, ?_⟩
 by_cases hl : ring.length = 2
 ·rw [hl] at hxl
  obtain ⟨k1, k2, k3, _⟩ := key 0 x0 x0 hx0 hxl
  exact ((f.step k1 (gget_of k3)).2.2.2.1 rfl).elim
 ·exact o315 h2 hl
theorem Fd.ring_ends (f : Fd W T nr t) (o : NdOk T t l) {ring : List Int} (h : Ring (scOf l) (l.map (·.k)) ring) : ∀ n, ∀ v ∈ ring, v ∈ endsN T t n
 | 0, v, hv => (o.kk v).mp (h.sub v hv)
 | n + 1, v, hv => by
  obtain ⟨key, h2⟩ := f.ring o h
  have hvk := (o.kk v).mp (h.sub v hv)
  obtain ⟨k, hk, e⟩ := List.getElem_of_mem hv
  have ⟨j, u, hj, hj1⟩ : ∃ (j : Nat) (u : Int), ring[j]? = some u ∧ ring[j + 1]? = some v := by
   by_cases h0 : k = 0
   ·subst h0
    refine ⟨ring.length - 2, ring[ring.length - 2], List.getElem?_eq_getElem (by omega), ?_⟩
    rw [show ring.length - 2 + 1 = ring.length - 1 by exact o316 h2, ← h.ends, List.getElem?_eq_getElem hk, e]
   ·exact ⟨k - 1, ring[k - 1], List.getElem?_eq_getElem (by exact o317 hk), by rw [show k - 1 + 1 = k by exact o318 h0, List.getElem?_eq_getElem hk, e]⟩
  obtain ⟨k1, k2, k3, _⟩ := key j u v hj hj1
  have hu := Fd.ring_ends f o h n u (List.mem_of_getElem? hj)
  refine List.mem_filter.mpr ⟨hvk, ?_⟩
  simp only [Bool.not_eq_true', decide_eq_false_iff_not]
  exact List.ne_nil_of_mem (List.mem_filter.mpr ⟨hu, free_iff.mpr k3⟩)
/-! without a ring -/
structure Ord (T : List Tab) (t : Tab) (pos : Int → Nat) : Prop where
 lt : ∀ u v, u ∈ ks t → v ∈ ks t → tgt T t u v = true → pos v < pos u
theorem Ord.of (o : NdOk T t l) {fin : List Int} (h : Fin (scOf l) fin) (nd : fin.Nodup) (all : ∀ v ∈ l.map (·.k), v ∈ fin) : Ord T t (fin.idxOf ·) := ⟨fun u v hu hv ht => by
 have hm := (o.mem hu).mpr ⟨hv, ht⟩
 obtain ⟨pre, post, e⟩ := List.append_of_mem (all u ((o.kk u).mpr hu))
 have hp := h pre u post e v hm
 subst e
 have hn : u ∉ pre := by
  rw [List.nodup_append] at nd
  exact fun q => nd.2.2 u q u (by simp) rfl
 have e1 : (pre ++ u :: post).idxOf u = pre.length := by rw [List.idxOf_append, if_neg hn]; simp
 have e2 : (pre ++ u :: post).idxOf v < pre.length := by rw [List.idxOf_append, if_pos hp]; exact List.idxOf_lt_length_of_mem hp
 show (pre ++ u :: post).idxOf v < (pre ++ u :: post).idxOf u
 exact o7 e1 e2⟩
theorem Fd.no_ends (f : Fd W T nr t) {pos : Int → Nat} (o : Ord T t pos) : endsN T t 5 = [] := by
 walk_at "W,T,nr,t,pos|f,o"
 have key : ∀ n, ∀ v ∈ endsN T t n, ∃ w : List Int, w.length = n ∧ (∀ x ∈ w, x ∈ ks t) ∧ (v :: w).Pairwise (fun a b => tv t a < tv t b ∨ (tv t a = tv t b ∧ pos a < pos b)) := by
  intro n
  walk_at "n|"
  induction n with
  | zero => exact fun v _ => ⟨[], rfl, by simp, by simp⟩
  | succ n ih =>
   walk_at "n|ih"
   intro v hv
   walk_at "v|hv"
   obtain ⟨hvk, he⟩ := List.mem_filter.mp hv
   simp only [Bool.not_eq_true', decide_eq_false_iff_not] at he
   obtain ⟨u, hu⟩ := List.exists_mem_of_ne_nil _ he
   walk_at "u|hu"
   obtain ⟨hu, hfr⟩ := List.mem_filter.mp hu
   have huk : u ∈ ks t := by
    cases n with
    | zero => exact hu
    | succ n => exact (List.mem_filter.mp hu).1
   obtain ⟨w, h1, h2, h3⟩ := ih u hu
   walk_at "w|h1,h2,h3"
   have hm := gget_of (free_iff.mp hfr)
   obtain ⟨s1, s2, s3, s4, s5⟩ := f.step huk hm
   have lt : tv t v < tv t u ∨ (tv t v = tv t u ∧ pos v < pos u) := by
    by_cases e : tv t v = tv t u
    ·exact .inr ⟨e, o.lt u v huk hvk (tgt_iff.mpr ⟨0, free_iff.mp hfr, by exact o319 e⟩)⟩
    ·exact .inl (by exact o320 s3 e)
   refine ⟨u :: w, by simp [h1], fun x hx => ?_, List.pairwise_cons.mpr ⟨fun x hx => ?_, h3⟩⟩
   ·rcases List.mem_cons.mp hx with rfl | hx
    ·exact huk
    ·exact h2 x hx
   ·rcases List.mem_cons.mp hx with rfl | hx
    ·exact lt
    ·have := (List.pairwise_cons.mp h3).1 x hx
     exact o321 lt this
 cases e : endsN T t 5 with
 | nil => rfl
 | cons v r =>
  walk_at "v,r|e"
  obtain ⟨w, h1, h2, h3⟩ := key 5 v (by rw [e]; simp)
  have hv : v ∈ ks t := by
   have : v ∈ endsN T t 5 := by rw [e]; simp
   exact (List.mem_filter.mp this).1
  have nd : (v :: w).Nodup := h3.imp fun {a b} h q => by subst q; exact o322 h
  have := five nd (fun x hx => by
   rcases List.mem_cons.mp hx with rfl | hx
   ·exact f.rg hv
   ·exact f.rg (h2 x hx))
  simp [h1] at this
end
section
open PySem.Calls
variable {H00 : Hp} {S D : Addr} {l : List Nd} {K : Frag}
theorem Dfs.small {sc : Int → List Int} {ks fin : List Int} {tk : List (Int × Nat)} (d : Dfs sc ks fin tk) : fin.length + tk.length ≤ ks.length := by
 have := nodup_le d.nd d.sub
 simpa using this
theorem Srt.find {rd : V} {pp ff : Int} (h : Srt H00 H S D l rd pp ff) {v : Int} (hv : v ∈ l.map (·.k)) : ∃ a np, dget (n2iOf l) v = some (.ref a) ∧ H a = some (.node 54 [some (.int v), some (.int np), some (.lst (intsV (scOf l v)))]) := by
 obtain ⟨d, hd, rfl⟩ := List.mem_map.mp hv
 exact ⟨d.a, d.np, n2i_find h.nd hd, by rw [scOf_at h.nd hd]; exact h.o d hd⟩
noncomputable abbrev fcNames (l : List Nd) (aS aI aE aD : Addr) : List (Str × V) := [(Str.ofString "n2i", .dct (n2iOf l)), (Str.ofString "stack", .ref aS), (Str.ofString "itstack", .ref aI), (Str.ofString "seen", .ref aE), (Str.ofString "node2stacki", .ref aD)]
theorem fc_body (p : DefParts) (hp : clsDef 12 8 = some p) {fa : Addr} {n q : Str} {dv kv dc pm : Value} {an : Option Addr} {cd ct : Value} (L : Addr) (P : Prg s₀ mg mb) (C : Cls s₀ K) {rn : Nat} (r : Room A (rn + 1))
  {outer : List Env} (hfr : A.frames = some (callEnv (mkFd p n q dv kv dc pm an cd ct) L fa :: outer)) (hst : ∀ e ∈ callEnv (mkFd p n q dv kv dc pm an cd ct) L fa :: outer, e.scope.kind ≠ .module ∧ ∃ L, e.frame = some L)
  {rd : V} {pp ff : Int} (hS : Srt H00 H S D l rd pp ff) (hz : l.length ≤ 1000) (hcl : ∀ d ∈ l, ∀ v ∈ d.sc, v ∈ l.map (·.k)) {Q : V → Hp → Prop}
  (hN : ∀ fin, Fin (scOf l) fin → fin.Nodup → (∀ v ∈ l.map (·.k), v ∈ fin) → (∀ v ∈ fin, v ∈ l.map (·.k)) → Q .none H) (hR : ∀ ring, Ring (scOf l) (l.map (·.k)) ring → ring.length ≤ 1001 → Q (.lst (intsV ring)) H) :
  TS prog w s₀ A (callEnv (mkFd p n q dv kv dc pm an cd ct) L fa) p.body (fun f _ H1 => ∃ H2, (∀ a o, H2 a = some o → H1 a = some o) ∧ Q (retV f) H2) (Loc.ofArgs [(Str.ofString "self", V.ref S)]) H := by
 walk_at "prog,w,s₀,H,A,mg,mb,H00,S,D,l,K,p,fa,n,q,dv,kv,dc,pm,an,cd,ct,L,rn,outer,rd,pp,ff,Q|hp,P,C,r,hfr,hst,hS,hz,hcl,hN,hR"
 simp only [Loc.ofArgs, List.foldl]
 have e := def_eq hp rfl
 have hb := congrArg DefParts.body e
 have hs := congrArg DefParts.scope e
 dsimp only at hb hs
 rw [hb]
 generalize henv : callEnv (mkFd p n q dv kv dc pm an cd ct) L fa = env at hfr hst ⊢
 obtain ⟨hE, hsc⟩ := env_of henv hs rfl rfl rfl rfl
 have k0 := held_of "self" hsc rfl
 have k1 := held_of "n2i" hsc rfl
 have k2 := held_of "stack" hsc rfl
 have k3 := held_of "itstack" hsc rfl
 have k4 := held_of "seen" hsc rfl
 have k5 := held_of "node2stacki" hsc rfl
 have k6 := held_of "node" hsc rfl
 have s0 := stored_of "n2i" hsc rfl
 have s1 := stored_of "stack" hsc rfl
 have s2 := stored_of "itstack" hsc rfl
 have s3 := stored_of "seen" hsc rfl
 have s4 := stored_of "node2stacki" hsc rfl
 have s5 := stored_of "node" hsc rfl
 have g0 := kind_g "set" hsc rfl
 have g1 := kind_g "iter" hsc rfl
 have g2 := kind_g "len" hsc rfl
 have g3 := kind_g "StopIteration" hsc rfl
 have hG := P.G
 have v0 := P.nset
 have b0 := boot_set
 have q0 : KeepOk prog w s₀ (.raw (.type "set")) := keep_ty _
 have v1 := P.niter
 have b1 := boot_iter
 have q1 : KeepOk prog w s₀ (.raw (.builtin "iter")) := keep_bi _
 have v2 := P.nlen
 have b2 := boot_len
 have q2 : KeepOk prog w s₀ (.raw (.builtin "len")) := keep_bi _
 have v3 := P.nStopIteration
 have b3 := boot_StopIteration
 have q3 : KeepOk prog w s₀ (.raw (.type "StopIteration")) := keep_ty _
 clear hsc henv hs hb e hp
 have hu := r.units
 have ka : KeepOk prog w s₀ (.raw (.builtin "list.append")) := keep_bi _
 have kb : KeepOk prog w s₀ (.raw (.builtin "list.pop")) := keep_bi _
 have kc : KeepOk prog w s₀ (.raw (.builtin "set.add")) := keep_bi _
 have hcl' : ∀ v ∈ l.map (·.k), ∀ x ∈ scOf l v, x ∈ l.map (·.k) := fun v hv x hx => by
  obtain ⟨d, hd, rfl⟩ := List.mem_map.mp hv
  rw [scOf_at hS.nd hd] at hx
  exact hcl d hd x hx
 repeat' walk_at "go"
 refine Op1.field C.x C.fN hS.s hS.d (v := .dct (n2iOf l)) rfl rfl ?_
 repeat' walk_at "go"
 refine TE.list ?_
 repeat' walk_at "go"
 refine ⟨by simp [sizeLine_eq], fun aS hfS => ?_⟩
 walk_at "aS|hfS"
 repeat' walk_at "go"
 refine TE.list ?_
 repeat' walk_at "go"
 refine ⟨by simp [sizeLine_eq], fun aI hfI => ?_⟩
 walk_at "aI|hfI"
 repeat' walk_at "go"
 refine TC.set0 fun aE hfE => ?_
 walk_at "aE|hfE"
 repeat' walk_at "go"
 refine TE.dict0 fun aD hfD => ?_
 walk_at "aD|hfD"
 obtain ⟨nIS, hfI⟩ := put_none hfI
 obtain ⟨nEI, hfE⟩ := put_none hfE
 obtain ⟨nES, hfE⟩ := put_none hfE
 obtain ⟨nDE, hfD⟩ := put_none hfD
 obtain ⟨nDI, hfD⟩ := put_none hfD
 obtain ⟨nDS, hfD⟩ := put_none hfD
 have hF0 : Fch H ((((H.put aS (.list [])).put aI (.list [])).put aE (.set (fun _ => false) 0)).put aD (.dict [])) (scOf l) aS aI aE aD [] [] [] (fun _ => false) 0 := by
  refine ⟨?_, ?_, ?_, Hp.put_at, rfl, List.nodup_nil, fun j a p h => by simp at h, by simp, rfl, fun b o e => ?_, ⟨hfS, hfI, hfE, hfD⟩, nIS.symm⟩
  ·rw [Hp.put_ne nDS.symm, Hp.put_ne nES.symm, Hp.put_ne nIS.symm]; exact Hp.put_at
  ·rw [Hp.put_ne nDI.symm, Hp.put_ne nEI.symm]; exact Hp.put_at
  ·rw [Hp.put_ne nDE.symm]; exact Hp.put_at
  ·rw [Hp.put_ne (fun q => by rw [q, hfD] at e; cases e), Hp.put_ne (fun q => by rw [q, hfE] at e; cases e), Hp.put_ne (fun q => by rw [q, hfI] at e; cases e), Hp.put_ne (fun q => by rw [q, hfS] at e; cases e)]
   exact e
 generalize (((H.put aS (.list [])).put aI (.list [])).put aE (.set (fun _ => false) 0)).put aD (.dict []) = H1 at *
 clear nIS nEI nES nDE nDI nDS hfS hfI hfE hfD
 have hD0 : Dfs (scOf l) (l.map (·.k)) [] [] := ⟨by simp, by simp, fun pre u post e => by simp at e⟩
 repeat' walk_at "go"
 refine T1.fors ?_
 repeat' walk_at "go"
 refine ⟨_, OpIt.dct r.h, fun i m' H' => ∃ fin Sf n, Fch H H' (scOf l) aS aI aE aD fin [] [] Sf n ∧ Dfs (scOf l) (l.map (·.k)) fin [] ∧ (∀ v ∈ (l.map (·.k)).take i, v ∈ fin) ∧ Has m' (fcNames l aS aI aE aD), ⟨[], _, _, hF0, hD0, by simp, by walk_at "has"⟩, ?_, ?_⟩
 ·rintro i x m' H' hx ⟨fin, Sf, n, hF, hD, hpre, hm⟩
  walk_at "i,x,m',H',fin,Sf,n|hx,hF,hD,hpre,hm"
  obtain ⟨u0, hu0, rfl⟩ : ∃ u, (l.map (·.k))[i]? = some u ∧ x = .int u := by
   simp only [n2iOf, List.map_map, List.getElem?_map, Function.comp_def] at hx ⊢
   cases e : l[i]? with
   | none => rw [e] at hx; cases hx
   | some d => rw [e] at hx; cases hx; exact ⟨d.k, rfl, rfl⟩
  walk_at "u0|hu0,hx"
  have hks := List.mem_of_getElem? hu0
  have hpre' : ∀ fin' : List Int, (∀ v ∈ fin, v ∈ fin') → u0 ∈ fin' → ∀ v ∈ (l.map (·.k)).take (i + 1), v ∈ fin' := fun fin' h1 h2 v hv => by
   rw [List.take_add_one, hu0] at hv
   rcases List.mem_append.mp hv with hv | hv
   ·exact h1 v (hpre v hv)
   ·cases List.mem_singleton.mp hv; exact h2
  refine TA.has hm ?_
  simp only [Loc.ofArgs, List.foldl, fcNames]
  refine TA.name hE s5 ?_
  repeat' walk_at "go"
  have hsm := hD.small
  rw [List.length_map] at hsm
  refine Op2.in_set hF.e (by have := hF.nn; simp only [List.length_nil] at this hsm; unfold scanBound; exact o118 hz hsm this) ?_
  repeat' walk_at "go"
  by_cases hin : u0 ∈ fin
  ·rw [if_pos ((hF.sf u0).mpr (.inl hin))]
   repeat' walk_at "go"
   exact ⟨fin, Sf, n, hF, hD, hpre' fin (fun _ h => h) hin, by walk_at "has"⟩
  rw [if_neg (fun q => by have := (hF.sf u0).mp q; simp at this; exact hin this)]
  repeat' walk_at "go"
  have hkeep := hF.k
  refine T1.mono (Q := fun f m' H' => (∃ ring, f = .ret (.lst (intsV ring)) ∧ Ring (scOf l) (l.map (·.k)) ring ∧ ring.length ≤ 1001 ∧ ∀ a o, H a = some o → H' a = some o) ∨
   (f = .next ∧ ∃ fin Sf n, Fch H H' (scOf l) aS aI aE aD fin [] [] Sf n ∧ Dfs (scOf l) (l.map (·.k)) fin [] ∧ (∀ v ∈ (l.map (·.k)).take (i + 1), v ∈ fin) ∧ Has m' (fcNames l aS aI aE aD))) ?_ ?_
  rotate_left
  ·rintro f m' H' (⟨ring, rfl, hr, hrl, hk⟩ | ⟨rfl, fin, Sf, n, hF, hD, hpre, hm⟩)
   ·exact ⟨H, hk, hR ring hr hrl⟩
   ·show TS prog w s₀ A env [] _ m' H'
    exact TS.nil ⟨fin, Sf, n, hF, hD, hpre, hm⟩
  refine T1.whiles (I := fun N m' H' => ∃ fin tk its Sf n u, N = ((l.map (·.k)).map fun v => (scOf l v).length).sum - used (scOf l) fin tk ∧ Fch H H' (scOf l) aS aI aE aD fin tk its Sf n ∧ Dfs (scOf l) (l.map (·.k)) fin tk ∧ Below (scOf l) fin u tk ∧ (tk = [] → u ∉ fin) ∧ u ∈ l.map (·.k) ∧
   (u0 ∈ fin ∨ u0 ∈ tk.map (·.1) ∨ u = u0) ∧ (∀ v ∈ (l.map (·.k)).take i, v ∈ fin) ∧ Has m' ((Str.ofString "node", .int u) :: fcNames l aS aI aE aD)) ?_ _ ⟨fin, [], [], Sf, n, u0, rfl, hF, hD, trivial, fun _ => hin, hks, .inr (.inr rfl), hpre, by walk_at "has"⟩
  clear hF hD hm hpre hpre' hin hsm fin Sf n
  rintro N m' H' ⟨fin, tk, its, Sf, n, u, rfl, hF, hD, hB, hnf, hku, hu0', hpre, hm⟩
  walk_at "m',H',fin,tk,its,Sf,n,u|hF,hD,hB,hnf,hku,hu0',hpre,hm"
  have hnd : (tk.map (·.1)).Nodup := (List.nodup_append.mp hD.nd).2.1
  have hsm := hD.small
  rw [List.length_map] at hsm
  have hnn := hF.nn
  have hule := used_le hD hB.inside
  refine TB.has hm ?_
  simp only [Loc.ofArgs, List.foldl, fcNames]
  generalize hU : used (scOf l) fin tk = U at *
  refine TB.val (TE.const_bool (OpB.bool (iteT (TS.cons (T1.mono (Q := fun f m' H' => (∃ ring, f = .ret (.lst (intsV ring)) ∧ Ring (scOf l) (l.map (·.k)) ring ∧ ring.length ≤ 1001 ∧ ∀ a o, H a = some o → H' a = some o) ∨
   (f = .next ∧ ∃ fin tk its Sf n, Fch H H' (scOf l) aS aI aE aD fin tk its Sf n ∧ Dfs (scOf l) (l.map (·.k)) fin tk ∧ Work (scOf l) fin tk ∧ used (scOf l) fin tk = U ∧ (u0 ∈ fin ∨ u0 ∈ tk.map (·.1)) ∧ (∀ v ∈ (l.map (·.k)).take i, v ∈ fin) ∧ Has m' (fcNames l aS aI aE aD))) ?_ ?_)))))
  ·repeat' walk_at "go"
   refine Op2.in_set hF.e (by unfold scanBound; exact o119 hz hsm hnn) ?_
   repeat' walk_at "go"
   by_cases hs : Sf u = true
   ·rw [if_pos hs]
    repeat' walk_at "go"
    refine Op2.in_dict hF.d ?_
    repeat' walk_at "go"
    rw [nsk_has hnd]
    by_cases ht : u ∈ tk.map (·.1)
    ·rw [if_pos (by simpa using ht)]
     obtain ⟨n', g1, g2⟩ := nsk_get hnd ht
     walk_at "n'|g1,g2"
     repeat' walk_at "go"
     refine Op2.tail_dict (fun _ _ => ⟨_, rfl⟩) hF.d (Op2.item_dict hF.d g1 ?_)
     repeat' walk_at "go"
     refine Op2.tail_list (fun _ _ => ⟨_, rfl⟩) hF.s (Op2.slice_list_from hF.s (by simp [intsV, sizeLine_eq]; exact o23 hz hsm) ?_)
     repeat' walk_at "go"
     refine TE.listZ ?_
     repeat' walk_at "go"
     refine ⟨by simp [sizeLine_eq], ?_⟩
     refine Op2.cat (by simp [intsV, sizeLine_eq]; exact o120 hz hsm) ?_
     repeat' walk_at "go"
     refine .inl ⟨_, ?_, below_ring hD hB g2, by simp; exact o121 hz hsm, hF.k⟩
     simp [intsV]
    ·rw [if_neg (by simpa using ht)]
     have hfin : u ∈ fin := ((hF.sf u).mp hs).resolve_right ht
     repeat' walk_at "go"
     refine .inr ⟨rfl, fin, tk, its, Sf, n, hF, hD, work_old hB hfin, hU, ?_, hpre, by walk_at "has"⟩
     rcases hu0' with h | h | rfl
     ·exact .inl h
     ·exact .inr h
     ·exact .inl hfin
   ·rw [if_neg hs]
    have hnf' : u ∉ fin := fun q => hs ((hF.sf u).mpr (.inl q))
    have hnt' : u ∉ tk.map (·.1) := fun q => hs ((hF.sf u).mpr (.inr q))
    obtain ⟨an, np, hfind, hnode⟩ := hS.find hku
    walk_at "an,np|hfind,hnode"
    repeat' walk_at "go"
    refine OpM.set hF.e F.slot_set_add (by rfl) ?_
    repeat' walk_at "go"
    refine TC.set_add hF.e (by unfold scanBound; exact o122 hz hsm hnn) ?_
    rw [if_neg hs]
    repeat' walk_at "go"
    obtain ⟨p1, p2, p3, p4, p5⟩ := hF.apart
    have eI : (H'.put aE (.set (fun k' => Sf k' || decide (k' = u)) (n + 1))) aI = some (.list (its.map V.nx).reverse) := by rw [Hp.put_ne p3]; exact hF.i
    refine OpM.list eI slot_list_append (by rfl) ?_
    repeat' walk_at "go"
    refine Op2.tail_dct (fun _ _ => ⟨_, rfl⟩) (Op2.item_dct hfind ?_)
    have hne : an ≠ aE := fun q => by have := hF.k _ _ hnode; rw [q, hF.e] at this; cases this
    refine Op1.slot C.x C.t2 (by rw [Hp.put_ne hne]; exact hF.k _ _ hnode) rfl rfl ?_
    repeat' walk_at "go"
    refine TC.iter_lst fun a ha => ?_
    walk_at "a|ha"
    refine Op1.next_attr Hp.put_at ?_
    have haE := (put_none ha).1
    have haN := (put_none ha).2
    have na : ∀ c o, H' c = some o → a ≠ c := fun c o e q => by rw [← q, haN] at e; cases e
    have naI := na _ _ hF.i
    have naS := na _ _ hF.s
    have naD := na _ _ hF.d
    repeat' walk_at "go"
    refine TC.append (by rw [Hp.put_ne naI.symm]; exact eI) (by simp [sizeLine_eq]; have := hF.ln; exact o123 hz hsm this) ?_
    repeat' walk_at "go"
    refine TC.len_list (xs := intsV (tk.map (·.1)).reverse) (by rw [Hp.put_ne hF.ne, Hp.put_ne naS.symm, Hp.put_ne p1]; exact hF.s) (by simp [intsV]; exact o40 hz hsm) ?_
    repeat' walk_at "go"
    refine OpU.setItem_dict (kvs := nsk tk) (by rw [Hp.put_ne p4.symm, Hp.put_ne naD.symm, Hp.put_ne p5.symm]; exact hF.d) (by rw [nsk_len, sizeLine_eq]; exact o23 hz hsm) ?_
    repeat' walk_at "go"
    refine OpM.list (xs := intsV (tk.map (·.1)).reverse) (by rw [Hp.put_ne p2, Hp.put_ne hF.ne, Hp.put_ne naS.symm, Hp.put_ne p1]; exact hF.s) slot_list_append (by rfl) ?_
    repeat' walk_at "go"
    refine TC.append (xs := intsV (tk.map (·.1)).reverse) (by rw [Hp.put_ne p2, Hp.put_ne hF.ne, Hp.put_ne naS.symm, Hp.put_ne p1]; exact hF.s) (by simp [intsV, sizeLine_eq]; exact o23 hz hsm) ?_
    repeat' walk_at "go"
    have el : ((intsV (tk.map (·.1)).reverse).length : Int) = tk.length := by simp [intsV]
    rw [el]
    refine .inr ⟨rfl, fin, (u, 0) :: tk, a :: its, _, _, hF.push hnf' hnt' haN ?_ Hp.put_at ?_ ?_ ?_ ?_, hD.push hku hnf' hnt', work_new hB, ?_, ?_, hpre, by walk_at "has"⟩
    ·rw [Hp.put_ne naS, Hp.put_ne naD, Hp.put_ne naI]; exact Hp.put_at
    ·rw [Hp.put_ne hF.ne.symm, Hp.put_ne p4]; exact Hp.put_at
    ·rw [Hp.put_ne p1.symm, Hp.put_ne p5, Hp.put_ne p3.symm, Hp.put_ne haE.symm]; exact Hp.put_at
    ·rw [Hp.put_ne p2.symm]; exact Hp.put_at
    ·intro b b1 b2 b3 b4 b5
     rw [Hp.put_ne b2, Hp.put_ne b5, Hp.put_ne b3, Hp.put_ne b1, Hp.put_ne b4]
    ·rw [used_push, hU]
    ·rcases hu0' with h | h | rfl
     ·exact .inl h
     ·exact .inr (by simp [h])
     ·exact .inr (by simp)
  ·rintro f m' H' (⟨ring, rfl, hr, hrl, hk⟩ | ⟨rfl, fin, tk, its, Sf, n, hF, hD, hW, hU, hu0', hpre, hm⟩)
   ·exact .inl ⟨ring, rfl, hr, hrl, hk⟩
   walk_at "m',H',fin,tk,its,Sf,n|hF,hD,hW,hU,hu0',hpre,hm"
   show TS prog w s₀ A env _ _ m' H'
   refine TS.cons ?_
   refine T1.whiles (I := fun N m' H' => ∃ fin tk its Sf n, N = tk.length ∧ Fch H H' (scOf l) aS aI aE aD fin tk its Sf n ∧ Dfs (scOf l) (l.map (·.k)) fin tk ∧ Work (scOf l) fin tk ∧ used (scOf l) fin tk = U ∧ (u0 ∈ fin ∨ u0 ∈ tk.map (·.1)) ∧ (∀ v ∈ (l.map (·.k)).take i, v ∈ fin) ∧ Has m' (fcNames l aS aI aE aD)) ?_ _ ⟨fin, tk, its, Sf, n, rfl, hF, hD, hW, hU, hu0', hpre, hm⟩
   clear hF hD hW hU hu0' hpre hm
   rintro N m' H' ⟨fin, tk, its, Sf, n, rfl, hF, hD, hW, hU, hu0', hpre, hm⟩
   walk_at "m',H',fin,tk,its,Sf,n|hF,hD,hW,hU,hu0',hpre,hm"
   have hsm := hD.small
   rw [List.length_map] at hsm
   refine TB.has hm ?_
   simp only [Loc.ofArgs, List.foldl, fcNames]
   repeat' walk_at "go"
   refine OpB.list hF.s (by simp [intsV]; exact o40 hz hsm) ?_
   match tk, its, hF, hD, hW, hU, hu0', hsm with
   | [], its, hF, hD, hW, hU, hu0', hsm =>
    walk_at "its|hF"
    rw [if_neg (by simp [intsV])]
    repeat' walk_at "go"
    have hits : its = [] := List.eq_nil_of_length_eq_zero hF.ln
    subst hits
    have h0 : u0 ∈ fin := hu0'.resolve_right (by simp)
    refine .inr ⟨rfl, fin, Sf, n, hF, hD, fun v hv => ?_, by walk_at "has"⟩
    rw [List.take_add_one, hu0] at hv
    rcases List.mem_append.mp hv with hv | hv
    ·exact hpre v hv
    ·cases List.mem_singleton.mp hv; exact h0
   | (v, j) :: tk, its, hF, hD, hW, hU, hu0', hsm =>
    walk_at "v,j,tk,its|hF,hD,hW,hU,hu0',hsm"
    rw [if_pos (by simp [intsV])]
    obtain ⟨a, its, rfl⟩ : ∃ a r, its = a :: r := by
     cases its with
     | nil => exact absurd hF.ln (by simp)
     | cons a r => exact ⟨a, r, rfl⟩
    walk_at "a,its|hF"
    obtain ⟨f1, f2⟩ := hF.it 0 a (v, j) rfl rfl
    have hvk : v ∈ l.map (·.k) := hD.sub v (by simp)
    have hvt : v ∉ tk.map (·.1) := by have := (List.nodup_append.mp hD.nd).2.1; rw [List.map_cons, List.nodup_cons] at this; exact this.1
    have hln := hF.ln
    simp only [List.length_cons] at hsm hln
    refine TS.cons (T1.try_next hE hG r.h hfr hst s5 g3 v3 ?_)
    repeat' walk_at "go"
    refine Op2.tail_list (fun _ _ => ⟨_, rfl⟩) hF.i (Op2.item_list_neg (v := .nx a) hF.i (by exact o3) (by simp; exact o124) (by exact o4) ?_ ?_)
    ·rw [List.map_cons, List.reverse_cons, List.length_append, List.length_singleton, show ((-1 : Int) + (((its.map V.nx).reverse.length + 1 : Nat) : Int)).toNat = (its.map V.nx).reverse.length from by exact o125]
     simp
    refine ⟨a, intsV (scOf l v), j, rfl, f1, fun y hy => ?_, fun hend e => ?_⟩
    ·walk_at "y|hy"
     obtain ⟨x, hx, rfl⟩ := intsV_get hy
     walk_at "x|hx,hy"
     have hW' := work_next hW hx
     have hle := used_le (hD.bump (j + 1)) hW'.inside
     rw [used_next, hU] at hle
     repeat' walk_at "go"
     refine ⟨_, ?_, fin, (v, j + 1) :: tk, a :: its, Sf, n, x, rfl, hF.next rfl, hD.bump _, hW', (fun q => by cases q), hcl' v hvk x (List.mem_of_getElem? hx), ?_, hpre, by walk_at "has"⟩
     ·rw [used_next, hU]; exact o126 hle
     ·rcases hu0' with h | h
      ·exact .inl h
      ·exact .inr (.inl h)
    ·walk_at "e|"
     have hend' : (scOf l v)[j]? = none := by
      rw [intsV, List.getElem?_map] at hend
      cases e : (scOf l v)[j]? with
      | none => rfl
      | some z => rw [e] at hend; cases hend
     have na : ∀ c o, H' c = some o → (∀ xs i, o ≠ .iter xs i) → (H'.del a) c = some o := fun c o e k => by
      unfold Hp.del
      rw [if_neg (fun q => by rw [q, f1] at e; exact k _ _ (Option.some.inj e).symm)]; exact e
     obtain ⟨p1, p2, p3, p4, p5⟩ := hF.apart
     have eS := na _ _ hF.s (fun _ _ q => by cases q)
     have eI := na _ _ hF.i (fun _ _ q => by cases q)
     have eD := na _ _ hF.d (fun _ _ q => by cases q)
     rw [List.map_cons, List.reverse_cons, intsV, List.map_append] at eS
     rw [List.map_cons, List.reverse_cons] at eI
     refine TS.cons (T1.del ?_)
     repeat' walk_at "go"
     refine OpM.list eS F.slot_list_pop (by rfl) ?_
     repeat' walk_at "go"
     refine TC.pop eS (by simp [sizeLine_eq]; exact o127 hz hsm) ?_
     refine OpD.dict (kvs := nsk ((v, j) :: tk)) (by rw [Hp.put_ne p2.symm]; exact eD) (by rw [nsk_len, sizeLine_eq]; simp; exact o128 hz hsm) ?_ ?_
     ·rw [nsk_has (by have := (List.nodup_append.mp hD.nd).2.1; exact this)]; simp
     repeat' walk_at "go"
     refine OpM.list (xs := (its.map V.nx).reverse ++ [V.nx a]) (by rw [Hp.put_ne p4, Hp.put_ne hF.ne.symm]; exact eI) F.slot_list_pop (by rfl) ?_
     repeat' walk_at "go"
     refine TC.pop (xs := (its.map V.nx).reverse) (by rw [Hp.put_ne p4, Hp.put_ne hF.ne.symm]; exact eI) (by simp [sizeLine_eq]; exact o129 hz hsm hln) ?_
     repeat' walk_at "go"
     refine ⟨tk.length, by simp, fin ++ [v], tk, its, Sf, n, rfl, hF.pop rfl hvt ?_ Hp.put_at ?_ ?_, hD.pop hW hend', work_pop hW, by rw [used_pop hW hend', hU], ?_, fun x hx => List.mem_append.mpr (.inl (hpre x hx)), by walk_at "has"⟩
     ·rw [Hp.put_ne hF.ne, Hp.put_ne p2]; exact Hp.put_at
     ·rw [Hp.put_ne p4.symm]; exact Hp.put_at
     ·intro b b1 b2 b3 b4
      rw [Hp.put_ne b3, Hp.put_ne b4, Hp.put_ne b2]
      unfold Hp.del; rw [if_neg b1]
     ·rcases hu0' with h | h
      ·exact .inl (List.mem_append.mpr (.inl h))
      ·rcases List.mem_cons.mp h with h | h
       ·exact .inl (by simp [h])
       ·exact .inr h
 ·rintro m' H' ⟨fin, Sf, n, hF, hD, hpre, hm⟩
  repeat' walk_at "go"
  refine ⟨H, hF.k, hN fin hD.topo (by simpa using hD.nd) (fun v hv => hpre v ?_) (fun v hv => hD.sub v (by simpa using hv))⟩
  rw [List.take_of_length_le (by simp [n2iOf])]; exact hv
end
section
open PySem.Calls
variable {H00 : Hp} {S D : Addr} {l : List Nd} {K : Frag}
theorem tc_fc {n : Nat} (P : Prg s₀ mg mb) (C : Cls s₀ K) (r : Room A (n + 2)) (k : Stk A) {rd : V} {pp ff : Int} (hS : Srt H00 H S D l rd pp ff) (hz : l.length ≤ 1000) (hcl : ∀ d ∈ l, ∀ v ∈ d.sc, v ∈ l.map (·.k)) {Q : V → Hp → Prop}
  (hN : ∀ fin, Fin (scOf l) fin → fin.Nodup → (∀ v ∈ l.map (·.k), v ∈ fin) → (∀ v ∈ fin, v ∈ l.map (·.k)) → Q .none H) (hR : ∀ ring, Ring (scOf l) (l.map (·.k)) ring → ring.length ≤ 1001 → Q (.lst (intsV ring)) H) :
  TC prog w s₀ A (.raw (.ref 141)) [.ref S] Q H := by
 obtain ⟨p, hp, hat⟩ := C.a8
 refine (TCd.drop ?_).tc
 have e := def_eq hp rfl
 have hpar := congrArg DefParts.params e
 have hs := congrArg DefParts.scope e
 dsimp only at hs hpar
 refine TCd.at (names := [Str.ofString "self"]) hat r.lt (by rw [hs]; rfl) rfl (fun n q kv dc pm an cd ct xs hx => ?_) (by rw [hs]; rfl) (fun n q kv dc pm an cd ct L => ?_)
 ·obtain ⟨x0, rfl⟩ := Mine.len1 hx; unfold mkFd; rw [hpar]; rfl
 obtain ⟨o, hfr, hst⟩ := k.ex
 have hfd := Around.frames_deeper (env := callEnv (mkFd p n q .none kv dc pm an cd ct) L 141) hfr
 exact fc_body p hp L P C (r.deeper _) hfd (fun e he => by
  rcases List.mem_cons.mp he with rfl | he
  ·exact ⟨by show p.scope.kind ≠ _; rw [hs]; decide, _, rfl⟩
  ·exact hst e he) hS hz hcl hN hR
theorem reads_nil {scope : Scope} (h : (scope.names.all fun x => x.2 != .free) = true) : Reads scope env m := fun n hn => by
 have := List.all_eq_true.mp h _ (mem_of_lookup hn)
 cases this
theorem cenv_kind {scope : Scope} {C : Addr} {x : Str} {k : NameKind} (h : scope.names.lookup x = some k) (hk : k ≠ .free) : (cenvOf scope env C).kindOf x = some k := by
 show (relabel scope env).names.lookup x = _
 rw [relabel_lookup, h]
 cases k <;> first | rfl | exact (hk rfl).elim
theorem cenv_local {scope : Scope} {C : Addr} {x : Str} (h : scope.names.lookup x = some .local) (hc : (!(x == ("__classdict__" : Str)) && !(x == ("__debug__" : Str))) = true := by decide +kernel) : heldN (cenvOf scope env C) x = true ∧ stored? (cenvOf scope env C) x = true := by
 have e := cenv_kind (env := env) (C := C) h (by decide)
 constructor
 ·unfold heldN; rw [e, Bool.and_assoc, hc]; rfl
 ·unfold stored?; rw [e]; rfl
theorem stay_put {scope : Scope} {x : Str} {v : V} (h : scope.names.lookup x = some .local) : Stay (capt scope m) H ((capt scope m).put x v) H := by
 refine ⟨fun y u hy => ?_, fun _ _ e => e⟩
 unfold Loc.put
 by_cases q : y = x
 ·unfold capt at hy; rw [q, h, if_neg (by decide)] at hy; cases hy
 ·rw [if_neg q]; exact hy
noncomputable def rdyF (l : List Nd) : V → Option V
 | .ref a => (l.find? fun d => decide (d.a = a)).bind fun d => if d.np = 0 then some (.int d.k) else none
 | _ => none
noncomputable def rdyOf (l : List Nd) : List Int := (l.filter fun d => decide (d.np = 0)).map (·.k)
theorem rdyF_at (nda : (l.map (·.a)).Nodup) {d : Nd} (hd : d ∈ l) : rdyF l (.ref d.a) = if d.np = 0 then some (.int d.k) else none := by
 have h : ∃ x, l.find? (fun x => decide (x.a = d.a)) = some x := Option.isSome_iff_exists.mp (List.find?_isSome.mpr ⟨d, hd, by simp⟩)
 obtain ⟨x, e⟩ := h
 obtain rfl := nodup_at nda (List.mem_of_find?_eq_some e) hd (by simpa using List.find?_some e)
 show (List.find? _ l).bind _ = _
 rw [e]; rfl
theorem rdyF_all (nda : (l.map (·.a)).Nodup) : (l.map fun d => V.ref d.a).filterMap (rdyF l) = intsV (rdyOf l) := by
 rw [List.filterMap_map]
 have : ∀ l' : List Nd, (∀ d ∈ l', d ∈ l) → l'.filterMap (rdyF l ∘ fun d => V.ref d.a) = intsV (rdyOf l') := by
  intro l'
  induction l' with
  | nil => intro _; rfl
  | cons d r ih =>
   intro h
   rw [List.filterMap_cons, Function.comp_apply, rdyF_at nda (h d (by simp)), ih (fun x hx => h x (by simp [hx]))]
   by_cases hd : d.np = 0 <;> simp [rdyOf, intsV, hd]
 exact this l (fun _ h => h)
noncomputable abbrev veM : List Value := [.type "ValueError", .type "Exception", .type "BaseException", .type "object"]
theorem prepare_body (p : DefParts) (hp : clsDef 12 3 = some p) {fa : Addr} {n q : Str} {dv kv dc pm : Value} {an : Option Addr} {cd ct : Value} (L : Addr) (P : Prg s₀ mg mb) (C : Cls s₀ K) {rn : Nat} (r : Room A (rn + 2)) (k : Stk A)
  (hS : Srt H00 H S D l .none 0 0) (hz : l.length ≤ 1000) (hcl : ∀ d ∈ l, ∀ v ∈ d.sc, v ∈ l.map (·.k)) {Q : V → Hp → Prop} {X : List V → Hp → Prop} {CE : Addr} (O : OwnClsQ (Str.ofString "CycleError") CE veM "ValueError.__new__" mg s₀.heap)
  (hN : ∀ fin RD H', H RD = none → Srt H00 H' S D l (.ref RD) 0 0 → H' RD = some (.list (intsV (rdyOf l))) → Fin (scOf l) fin → fin.Nodup → (∀ v ∈ l.map (·.k), v ∈ fin) → (∀ v ∈ fin, v ∈ l.map (·.k)) → Q .none H')
  (hR : ∀ ring H', (∀ a o, H00 a = some o → H' a = some o) → Ring (scOf l) (l.map (·.k)) ring → ring.length ≤ 1001 → X [.str (Str.ofString "nodes are in a cycle"), .lst (intsV ring)] H') :
  TSx prog w s₀ A CE (callEnv (mkFd p n q dv kv dc pm an cd ct) L fa) p.body (fun f _ H1 => Q (retV f) H1) X (Loc.ofArgs [(Str.ofString "self", V.ref S)]) H := by
 walk_at "prog,w,s₀,H,A,mg,mb,H00,S,D,l,K,p,fa,n,q,dv,kv,dc,pm,an,cd,ct,L,rn,Q,X,CE|hp,P,C,r,k,hS,hz,hcl,O,hN,hR"
 simp only [Loc.ofArgs, List.foldl]
 have e := def_eq hp rfl
 have hb := congrArg DefParts.body e
 have hs := congrArg DefParts.scope e
 dsimp only at hb hs
 rw [hb]
 generalize henv : callEnv (mkFd p n q dv kv dc pm an cd ct) L fa = env
 obtain ⟨hE, hsc⟩ := env_of henv hs rfl rfl rfl rfl
 have k0 := held_of "self" hsc rfl
 have k1 := held_of "cycle" hsc rfl
 have s0 := stored_of "cycle" hsc rfl
 have g0 := kind_g "CycleError" hsc rfl
 have hG := P.G
 have v0 := P.kCycleError
 clear hsc henv hs hb e hp
 have hu := r.units
 have ka : KeepOk prog w s₀ (.raw (.builtin "dict.values")) := keep_bi _
 have kf : KeepOk prog w s₀ (.raw (.ref 141)) := by obtain ⟨p, _, h⟩ := C.a8; exact keep_at h
 refine TSx.cons ?_
 repeat' walk_at "go"
 refine Op1.field C.x C.fR hS.s hS.d (v := .none) rfl rfl ?_
 repeat' walk_at "go"
 refine Op2.notNone_no ?_
 repeat' walk_at "go"
 show TSx prog w s₀ A CE env _ _ X _ _
 refine TSx.cons ?_
 refine T1.assign_attr (TE.comp hE (by rfl) (by decide +kernel) (reads_nil (by decide +kernel)) ?_)
 repeat' walk_at "go"
 refine Op1.field C.x C.fN hS.s hS.d (v := .dct (n2iOf l)) rfl rfl ?_
 refine OpM.dct F.slot_dict_values (by rfl) ?_
 repeat' walk_at "go"
 refine TC.values ?_
 refine ⟨_, rdyF l, OpIt.vals r.h, by simp [n2iOf, sizeLine_eq]; exact o18 hz, reads_nil (by decide +kernel), fun Cc i x hx => ?_, ?_⟩
 ·walk_at "Cc,i,x|hx"
  obtain ⟨d, hd, rfl⟩ : ∃ d, d ∈ l ∧ x = .ref d.a := by
   simp only [n2iOf, List.map_map, List.getElem?_map, Function.comp_def] at hx
   cases e : l[i]? with
   | none => rw [e] at hx; cases hx
   | some d => rw [e] at hx; cases hx; exact ⟨d, List.mem_of_getElem? e, rfl⟩
  walk_at "d|hd,hx"
  have o1 := hS.o d hd
  rw [rdyF_at hS.nda hd]
  refine TA.name (hE.comp (by rfl)) (cenv_local (by rfl)).2 ?_
  refine TIfs.cons ?_
  refine TB.cmp (TE.attr (TE.name (v := .ref d.a) (hE.comp (by rfl)) (cenv_local (by rfl)).1 (by simp [Loc.put]) ?_))
  refine Op1.slot C.x C.t1 o1 rfl rfl ?_
  repeat' walk_at "go"
  by_cases h0 : d.np = 0
  ·rw [if_pos (by simp [h0])]
   refine TIfs.nil ?_
   rw [if_pos rfl]
   refine TE.attr (TE.name (v := .ref d.a) (hE.comp (by rfl)) (cenv_local (by rfl)).1 (by simp [Loc.put]) ?_)
   refine Op1.slot C.x C.t0 o1 rfl rfl ?_
   exact ⟨by rw [if_pos h0], stay_put (by rfl)⟩
  ·rw [if_neg (by simp [h0]), if_neg (by decide)]
   exact ⟨by rw [if_neg h0], stay_put (by rfl)⟩
 intro RD hRD
 walk_at "RD|hRD"
 have ev : ((n2iOf l).map (·.2)).filterMap (rdyF l) = intsV (rdyOf l) := by rw [show (n2iOf l).map (·.2) = l.map fun d => V.ref d.a from by simp [n2iOf, Function.comp_def], rdyF_all hS.nda]
 rw [ev]
 have n1 : S ≠ RD := fun q => by have := hS.s; rw [q, hRD] at this; cases this
 have n2 : D ≠ RD := fun q => by have := hS.d; rw [q, hRD] at this; cases this
 have n3 : S ≠ D := fun q => by have := hS.s; rw [q, hS.d] at this; cases this
 repeat' walk_at "go"
 refine OpU.field C.x C.fR (C := 151) (D := D) (f := fields (.dct (n2iOf l)) .none 0 0) (by rw [Hp.put_ne n1]; exact hS.s) (by rw [Hp.put_ne n2]; exact hS.d) (by simp [fields]) ?_
 have ef : fput (fields (.dct (n2iOf l)) .none 0 0) (Str.ofString "_ready_nodes") (.ref RD) = fields (.dct (n2iOf l)) (.ref RD) 0 0 := by simp [fput, fields, ofString_eq]
 rw [ef]
 have hS1 : Srt H00 ((H.put RD (.list (intsV (rdyOf l)))).put D (.ns (fields (.dct (n2iOf l)) (.ref RD) 0 0))) S D l (.ref RD) 0 0 := by
  have nn : ∀ a o, H a = some o → a ≠ RD := fun a o e q => by rw [q, hRD] at e; cases e
  refine ⟨by rw [Hp.put_ne n3, Hp.put_ne n1]; exact hS.s, Hp.put_at, hS.nd, hS.nda, fun d hd => ?_, fun a o e => ?_, hS.fr⟩
  ·have o1 := hS.o d hd
   rw [Hp.put_ne (fun q => by rw [q, hS.d] at o1; cases o1), Hp.put_ne (nn _ _ o1)]; exact o1
  ·rw [Hp.put_ne (fun q => by rw [q, hS.fr.2.1] at e; cases e), Hp.put_ne (nn _ _ (hS.keep a o e))]; exact hS.keep a o e
 have hRD1 : ((H.put RD (.list (intsV (rdyOf l)))).put D (.ns (fields (.dct (n2iOf l)) (.ref RD) 0 0))) RD = some (.list (intsV (rdyOf l))) := by rw [Hp.put_ne n2.symm]; exact Hp.put_at
 generalize (H.put RD (.list (intsV (rdyOf l)))).put D (.ns (fields (.dct (n2iOf l)) (.ref RD) 0 0)) = H1 at *
 show TSx prog w s₀ A CE env _ _ X _ _
 refine TSx.cons ?_
 repeat' walk_at "go"
 refine OpM.inst C.x C.m8 hS1.s hS1.d rfl ?_
 repeat' walk_at "go"
 refine tc_fc P C r k hS1 hz hcl (fun fin f1 f2 f3 f4 => ?_) (fun ring f1 f2 => ?_)
 ·show TSx prog w s₀ A CE env _ _ X _ _
  refine TSx.ifs ?_
  repeat' walk_at "go"
  exact TSx.nil (hN fin RD H1 hRD hS1 hRD1 f1 f2 f3 f4)
 ·walk_at "ring|f1,f2"
  show TSx prog w s₀ A CE env _ _ X _ _
  refine TSx.ifs ?_
  repeat' walk_at "go"
  refine OpB.lst (by simp [intsV]; exact o41 f2) ?_
  have : (intsV ring).isEmpty = false := by cases e : ring with
   | nil => have := f1.two; rw [e] at this; simp at this
   | cons a b => rfl
  rw [this]
  rw [if_pos (by decide)]
  refine TSx.raise hE hG.g O.own PySem.F.excBase_ValueError r.h g0 ?_
  refine TL.cons (TE.joined1 ?_)
  repeat' walk_at "go"
  exact ⟨by simp [sizeLine_eq], hR ring H1 hS1.keep f1 f2⟩
theorem tcx_prepare {n : Nat} (P : Prg s₀ mg mb) (C : Cls s₀ K) (r : Room A (n + 3)) (k : Stk A)
  (hS : Srt H00 H S D l .none 0 0) (hz : l.length ≤ 1000) (hcl : ∀ d ∈ l, ∀ v ∈ d.sc, v ∈ l.map (·.k)) {Q : V → Hp → Prop} {X : List V → Hp → Prop} {CE : Addr} (O : OwnClsQ (Str.ofString "CycleError") CE veM "ValueError.__new__" mg s₀.heap)
  (hN : ∀ fin RD H', H RD = none → Srt H00 H' S D l (.ref RD) 0 0 → H' RD = some (.list (intsV (rdyOf l))) → Fin (scOf l) fin → fin.Nodup → (∀ v ∈ l.map (·.k), v ∈ fin) → (∀ v ∈ fin, v ∈ l.map (·.k)) → Q .none H')
  (hR : ∀ ring H', (∀ a o, H00 a = some o → H' a = some o) → Ring (scOf l) (l.map (·.k)) ring → ring.length ≤ 1001 → X [.str (Str.ofString "nodes are in a cycle"), .lst (intsV ring)] H') :
  TCx prog w s₀ A CE (.raw (.ref 106)) [.ref S] Q X H := by
 obtain ⟨p, hp, hat⟩ := C.a3
 have e := def_eq hp rfl
 have hpar := congrArg DefParts.params e
 have hs := congrArg DefParts.scope e
 dsimp only at hs hpar
 obtain ⟨o, n, q, kv, dc, pm, an, cd, ct, h1, h2, h3⟩ := hat.ex
 refine TCx.defn k h1 h2 h3 rfl r.lt (by show plainScope p.scope = true; rw [hs]; rfl) (TBind.plain (names := [Str.ofString "self"]) (vs := [.ref S]) rfl (fun xs hx => ?_)) (show (List.all ([Str.ofString "self"].zip [V.ref S]) fun x => decide (p.scope.names.lookup x.1 = some NameKind.local)) = true from by rw [hs]; rfl) fun L => ?_
 ·obtain ⟨x, rfl⟩ := Mine.len1 hx; unfold mkFd; rw [hpar]; rfl
 ·rw [ofArgs_lookup]
  exact prepare_body p hp L P C (r.deeper _) (k.deeper (by show p.scope.kind ≠ _; rw [hs]; decide) rfl) hS hz hcl O hN hR
end
section
open PySem.Calls
variable {H00 : Hp} {S D RD : Addr} {l : List Nd} {K : Frag} {np : Int → Int} {pp ff : Int}
noncomputable def up (np : Int → Int) (v n : Int) : Int → Int := fun x => if x = v then n else np x
structure Sf (H0 H : Hp) (S D RD : Addr) (l : List Nd) (np : Int → Int) (rd : List Int) (p f : Int) : Prop where
 s : H S = some (.inst 151 D)
 d : H D = some (.ns (fields (.dct (n2iOf l)) (.ref RD) p f))
 r : H RD = some (.list (intsV rd))
 nd : (l.map (·.k)).Nodup
 nda : (l.map (·.a)).Nodup
 o : ∀ d ∈ l, H d.a = some (.node 54 [some (.int d.k), some (.int (np d.k)), some (.lst (intsV d.sc))])
 keep : ∀ a o, H0 a = some o → H a = some o
 fr : H0 S = none ∧ H0 D = none ∧ H0 RD = none ∧ ∀ d ∈ l, H0 d.a = none
theorem Sf.set {rd : List Int} (h : Sf H00 H S D RD l np rd pp ff) {d : Nd} (hd : d ∈ l) (n : Int) : Sf H00 (H.put d.a (.node 54 [some (.int d.k), some (.int n), some (.lst (intsV d.sc))])) S D RD l (up np d.k n) rd pp ff := by
 have o1 := h.o d hd
 have ne : ∀ a o, H a = some o → (∀ vs, o ≠ .node 54 vs) → a ≠ d.a := fun a o e k q => by rw [q, o1] at e; exact k _ (Option.some.inj e).symm
 refine ⟨?_, ?_, ?_, h.nd, h.nda, fun x hx => ?_, fun a o e => ?_, h.fr⟩
 ·rw [Hp.put_ne (ne _ _ h.s (fun _ q => by cases q))]; exact h.s
 ·rw [Hp.put_ne (ne _ _ h.d (fun _ q => by cases q))]; exact h.d
 ·rw [Hp.put_ne (ne _ _ h.r (fun _ q => by cases q))]; exact h.r
 ·unfold up
  by_cases hk : x.k = d.k
  ·obtain rfl := nodup_at h.nd hx hd hk
   rw [Hp.put_at, if_pos rfl]
  ·rw [Hp.put_ne (fun q => hk (by rw [nodup_at h.nda hx hd q])), if_neg hk]; exact h.o x hx
 ·rw [Hp.put_ne (fun q => by rw [q, h.fr.2.2.2 d hd] at e; cases e)]; exact h.keep a o e
theorem Sf.rdy {rd : List Int} (h : Sf H00 H S D RD l np rd pp ff) (rd' : List Int) : Sf H00 (H.put RD (.list (intsV rd'))) S D RD l np rd' pp ff := by
 have o1 := h.r
 have ne : ∀ a o, H a = some o → (∀ vs, o ≠ .list vs) → a ≠ RD := fun a o e k q => by rw [q, o1] at e; exact k _ (Option.some.inj e).symm
 refine ⟨?_, ?_, Hp.put_at, h.nd, h.nda, fun x hx => ?_, fun a o e => ?_, h.fr⟩
 ·rw [Hp.put_ne (ne _ _ h.s (fun _ q => by cases q))]; exact h.s
 ·rw [Hp.put_ne (ne _ _ h.d (fun _ q => by cases q))]; exact h.d
 ·rw [Hp.put_ne (ne _ _ (h.o x hx) (fun _ q => by cases q))]; exact h.o x hx
 ·rw [Hp.put_ne (fun q => by rw [q, h.fr.2.2.1] at e; cases e)]; exact h.keep a o e
theorem Sf.cnt {rd : List Int} (h : Sf H00 H S D RD l np rd pp ff) (p' f' : Int) : Sf H00 (H.put D (.ns (fields (.dct (n2iOf l)) (.ref RD) p' f'))) S D RD l np rd p' f' := by
 have o1 := h.d
 have ne : ∀ a o, H a = some o → (∀ vs, o ≠ .ns vs) → a ≠ D := fun a o e k q => by rw [q, o1] at e; exact k _ (Option.some.inj e).symm
 refine ⟨?_, Hp.put_at, ?_, h.nd, h.nda, fun x hx => ?_, fun a o e => ?_, h.fr⟩
 ·rw [Hp.put_ne (ne _ _ h.s (fun _ q => by cases q))]; exact h.s
 ·rw [Hp.put_ne (ne _ _ h.r (fun _ q => by cases q))]; exact h.r
 ·rw [Hp.put_ne (ne _ _ (h.o x hx) (fun _ q => by cases q))]; exact h.o x hx
 ·rw [Hp.put_ne (fun q => by rw [q, h.fr.2.1] at e; cases e)]; exact h.keep a o e
theorem Sf.find {rd : List Int} (h : Sf H00 H S D RD l np rd pp ff) {v : Int} (hv : v ∈ l.map (·.k)) : ∃ d ∈ l, d.k = v ∧ dget (n2iOf l) v = some (.ref d.a) ∧ H d.a = some (.node 54 [some (.int v), some (.int (np v)), some (.lst (intsV d.sc))]) := by
 obtain ⟨d, hd, rfl⟩ := List.mem_map.mp hv
 exact ⟨d, hd, rfl, n2i_find h.nd hd, h.o d hd⟩
theorem active_body (p : DefParts) (hp : clsDef 12 5 = some p) {fa : Addr} {n q : Str} {dv kv dc pm : Value} {an : Option Addr} {cd ct : Value} (L : Addr) (P : Prg s₀ mg mb) (C : Cls s₀ K)
  {rd : List Int} (hS : Sf H00 H S D RD l np rd pp ff) (hz : rd.length ≤ 1000) {Q : V → Hp → Prop} (h : Q (.bool (decide (ff < pp) || !rd.isEmpty)) H) :
  TS prog w s₀ A (callEnv (mkFd p n q dv kv dc pm an cd ct) L fa) p.body (fun f _ H1 => Q (retV f) H1) (Loc.ofArgs [(Str.ofString "self", V.ref S)]) H := by
 walk_at "prog,w,s₀,H,A,mg,mb,H00,S,D,RD,l,K,np,pp,ff,p,fa,n,q,dv,kv,dc,pm,an,cd,ct,L,rd,Q|hp,P,C,hS,hz,h"
 simp only [Loc.ofArgs, List.foldl]
 have e := def_eq hp rfl
 have hb := congrArg DefParts.body e
 have hs := congrArg DefParts.scope e
 dsimp only at hb hs
 rw [hb]
 generalize henv : callEnv (mkFd p n q dv kv dc pm an cd ct) L fa = env
 obtain ⟨hE, hsc⟩ := env_of henv hs rfl rfl rfl rfl
 have k0 := held_of "self" hsc rfl
 have g0 := kind_g "bool" hsc rfl
 have hG := P.G
 have v0 := P.nbool
 have b0 := boot_bool
 have q0 : KeepOk prog w s₀ (.raw (.type "bool")) := keep_ty _
 clear hsc henv hs hb e hp
 repeat' walk_at "go"
 refine Op1.field C.x C.fR hS.s hS.d (v := .ref RD) rfl rfl ?_
 repeat' walk_at "go"
 refine Op2.isNone_no rfl ?_
 repeat' walk_at "go"
 refine Op1.field C.x C.fF hS.s hS.d (v := .int ff) rfl rfl ?_
 repeat' walk_at "go"
 refine Op1.field C.x C.fP hS.s hS.d (v := .int pp) rfl rfl ?_
 repeat' walk_at "go"
 by_cases hlt : ff < pp
 ·rw [if_pos (by simpa using hlt)]
  simp only [hlt, decide_true, Bool.true_or] at h ⊢
  exact h
 ·rw [if_neg (by simpa using hlt)]
  simp only [hlt, decide_false, Bool.false_or] at h
  repeat' walk_at "go"
  refine Op1.field C.x C.fR hS.s hS.d (v := .ref RD) rfl rfl ?_
  repeat' walk_at "go"
  refine TC.bool_list hS.r (by simp [intsV]; exact o42 hz) ?_
  rw [show (intsV rd).isEmpty = rd.isEmpty by cases rd <;> rfl]
  exact h
theorem ready_body (p : DefParts) (hp : clsDef 12 4 = some p) {fa : Addr} {n q : Str} {dv kv dc pm : Value} {an : Option Addr} {cd ct : Value} (L : Addr) (P : Prg s₀ mg mb) (C : Cls s₀ K) {rn : Nat} (r : Room A rn)
  {rd : List Int} (hS : Sf H00 H S D RD l np rd pp ff) (hz : rd.length ≤ 1000) (hk : ∀ v ∈ rd, v ∈ l.map (·.k)) {Q : V → Hp → Prop}
  (h : ∀ H', Sf H00 H' S D RD l (rd.foldl (fun np v => up np v (-1)) np) [] (pp + rd.length) ff → Q (.tup (intsV rd)) H') :
  TS prog w s₀ A (callEnv (mkFd p n q dv kv dc pm an cd ct) L fa) p.body (fun f _ H1 => Q (retV f) H1) (Loc.ofArgs [(Str.ofString "self", V.ref S)]) H := by
 walk_at "prog,w,s₀,H,A,mg,mb,H00,S,D,RD,l,K,np,pp,ff,p,fa,n,q,dv,kv,dc,pm,an,cd,ct,L,rn,rd,Q|hp,P,C,r,hS,hz,hk,h"
 simp only [Loc.ofArgs, List.foldl]
 have e := def_eq hp rfl
 have hb := congrArg DefParts.body e
 have hs := congrArg DefParts.scope e
 dsimp only at hb hs
 rw [hb]
 generalize henv : callEnv (mkFd p n q dv kv dc pm an cd ct) L fa = env
 obtain ⟨hE, hsc⟩ := env_of henv hs rfl rfl rfl rfl
 have k0 := held_of "self" hsc rfl
 have k1 := held_of "result" hsc rfl
 have k2 := held_of "n2i" hsc rfl
 have k3 := held_of "node" hsc rfl
 have s0 := stored_of "result" hsc rfl
 have s1 := stored_of "n2i" hsc rfl
 have s2 := stored_of "node" hsc rfl
 have g0 := kind_g "tuple" hsc rfl
 have g1 := kind_g "_NODE_OUT" hsc rfl
 have g2 := kind_g "len" hsc rfl
 have hG := P.G
 have v0 := P.ntuple
 have b0 := boot_tuple
 have q0 : KeepOk prog w s₀ (.raw (.type "tuple")) := keep_ty _
 obtain ⟨t1, v1⟩ := P.c_NODE_OUT
 walk_at "t1|v1"
 have v2 := P.nlen
 have b2 := boot_len
 have q2 : KeepOk prog w s₀ (.raw (.builtin "len")) := keep_bi _
 clear hsc henv hs hb e hp
 have ka : KeepOk prog w s₀ (.raw (.builtin "list.clear")) := keep_bi _
 repeat' walk_at "go"
 refine Op1.field C.x C.fR hS.s hS.d (v := .ref RD) rfl rfl ?_
 repeat' walk_at "go"
 refine Op2.isNone_no rfl ?_
 repeat' walk_at "go"
 refine Op1.field C.x C.fR hS.s hS.d (v := .ref RD) rfl rfl ?_
 repeat' walk_at "go"
 refine TC.tuple_list hS.r (by simp [intsV, sizeLine_eq]; exact o18 hz) ?_
 repeat' walk_at "go"
 refine Op1.field C.x C.fN hS.s hS.d (v := .dct (n2iOf l)) rfl rfl ?_
 repeat' walk_at "go"
 refine T1.fors ?_
 repeat' walk_at "go"
 refine ⟨_, OpIt.tup r.h, fun i m' H' => Sf H00 H' S D RD l ((rd.take i).foldl (fun np v => up np v (-1)) np) rd pp ff ∧ Has m' [(Str.ofString "self", .ref S), (Str.ofString "n2i", .dct (n2iOf l)), (Str.ofString "result", .tup (intsV rd))], ⟨hS, by walk_at "has"⟩, ?_, ?_⟩
 ·rintro i x m' H' hx ⟨hS', hm⟩
  walk_at "i,x,m',H'|hx,hS',hm"
  obtain ⟨v, hv, rfl⟩ := intsV_get hx
  walk_at "v|hv,hx"
  obtain ⟨d, hd, rfl, h1, h2⟩ := hS'.find (hk v (List.mem_of_getElem? hv))
  walk_at "d|hd,hv,hx,h1,h2"
  refine TA.has hm ?_
  simp only [Loc.ofArgs, List.foldl]
  refine TA.name hE s2 ?_
  repeat' walk_at "go"
  refine Op2.tail_dct (fun _ _ => ⟨_, rfl⟩) (Op2.item_dct h1 ?_)
  refine OpU.slot C.x C.t1 h2 ?_
  repeat' walk_at "go"
  refine ⟨?_, by walk_at "has"⟩
  rw [List.take_add_one, hv, List.foldl_append]
  exact hS'.set hd (-1)
 ·rintro m' H' ⟨hS', hm⟩
  walk_at "m',H'|hS',hm"
  rw [List.take_of_length_le (by simp [intsV])] at hS'
  show TS prog w s₀ A env _ _ m' H'
  refine TS.has hm ?_
  simp only [Loc.ofArgs, List.foldl]
  repeat' walk_at "go"
  refine Op1.field C.x C.fR hS'.s hS'.d (v := .ref RD) rfl rfl ?_
  refine OpM.list hS'.r F.slot_list_clear (by rfl) ?_
  repeat' walk_at "go"
  refine TC.clear hS'.r (by simp [intsV, sizeLine_eq]; exact o18 hz) ?_
  have hS2 := hS'.rdy []
  rw [show O.list (intsV []) = .list [] from rfl] at hS2
  repeat' walk_at "go"
  refine Op1.field C.x C.fP hS2.s hS2.d (v := .int pp) rfl rfl ?_
  repeat' walk_at "go"
  refine TC.len_tup (by simp [intsV]; exact o42 hz) ?_
  repeat' walk_at "go"
  refine OpU.field C.x C.fP hS2.s hS2.d (by simp [fields]) ?_
  rw [show fput (fields (.dct (n2iOf l)) (.ref RD) pp ff) (Str.ofString "_npassedout") (.int (pp + (intsV rd).length)) = fields (.dct (n2iOf l)) (.ref RD) (pp + rd.length) ff by simp [fput, fields, ofString_eq, intsV]]
  repeat' walk_at "go"
  exact h _ (hS2.cnt _ _)
end
section
open PySem.Calls
variable {H00 : Hp} {S D RD : Addr} {l : List Nd} {K : Frag} {np : Int → Int} {pp ff : Int}
noncomputable def relax (s : (Int → Int) × List Int) (v : Int) : (Int → Int) × List Int := (up s.1 v (s.1 v - 1), if s.1 v - 1 = 0 then s.2 ++ [v] else s.2)
theorem relax_len (sc : List Int) : ∀ (s : (Int → Int) × List Int), (sc.foldl relax s).2.length ≤ s.2.length + sc.length := by
 induction sc with
 | nil => intro s; simp
 | cons v sc ih =>
  intro s
  rw [List.foldl_cons, List.length_cons]
  have := ih (relax s v)
  have : (relax s v).2.length ≤ s.2.length + 1 := by unfold relax; dsimp only; split <;> simp
  exact o337 (by assumption) this
theorem done_body (p : DefParts) (hp : clsDef 12 7 = some p) {fa : Addr} {n q : Str} {dv kv dc pm : Value} {an : Option Addr} {cd ct : Value} (L : Addr) (P : Prg s₀ mg mb) (C : Cls s₀ K) {rn : Nat} (r : Room A rn)
  {rd : List Int} {v : Int} (hS : Sf H00 H S D RD l np rd pp ff) (hz : rd.length ≤ 1000) (hv : v ∈ l.map (·.k)) (hnp : np v = -1) (hcl : ∀ d ∈ l, ∀ v ∈ d.sc, v ∈ l.map (·.k)) (hsz : ∀ d ∈ l, d.sc.length ≤ 1000) {Q : V → Hp → Prop}
  (h : ∀ H', Sf H00 H' S D RD l ((scOf l v).foldl relax (up np v (-2), rd)).1 ((scOf l v).foldl relax (up np v (-2), rd)).2 pp (ff + 1) → Q .none H') :
  TS prog w s₀ A (callEnv (mkFd p n q dv kv dc pm an cd ct) L fa) p.body (fun f _ H1 => Q (retV f) H1) (Loc.ofArgs [(Str.ofString "self", V.ref S), (Str.ofString "nodes", .tup (intsV [v]))]) H := by
 walk_at "prog,w,s₀,H,A,mg,mb,H00,S,D,RD,l,K,np,pp,ff,p,fa,n,q,dv,kv,dc,pm,an,cd,ct,L,rn,rd,v,Q|hp,P,C,r,hS,hz,hv,hnp,hcl,hsz,h"
 simp only [Loc.ofArgs, List.foldl]
 have e := def_eq hp rfl
 have hb := congrArg DefParts.body e
 have hs := congrArg DefParts.scope e
 dsimp only at hb hs
 rw [hb]
 generalize henv : callEnv (mkFd p n q dv kv dc pm an cd ct) L fa = env
 obtain ⟨hE, hsc⟩ := env_of henv hs rfl rfl rfl rfl
 have k0 := held_of "self" hsc rfl
 have k1 := held_of "nodes" hsc rfl
 have k2 := held_of "n2i" hsc rfl
 have k3 := held_of "node" hsc rfl
 have k4 := held_of "nodeinfo" hsc rfl
 have k5 := held_of "stat" hsc rfl
 have k6 := held_of "successor" hsc rfl
 have k7 := held_of "successor_info" hsc rfl
 have s0 := stored_of "n2i" hsc rfl
 have s1 := stored_of "node" hsc rfl
 have s2 := stored_of "nodeinfo" hsc rfl
 have s3 := stored_of "stat" hsc rfl
 have s4 := stored_of "successor" hsc rfl
 have s5 := stored_of "successor_info" hsc rfl
 have g0 := kind_g "_NODE_OUT" hsc rfl
 have g1 := kind_g "_NODE_DONE" hsc rfl
 have hG := P.G
 obtain ⟨t0, v0⟩ := P.c_NODE_OUT
 walk_at "t0|v0"
 obtain ⟨t1, v1⟩ := P.c_NODE_DONE
 walk_at "t1|v1"
 clear hsc henv hs hb e hp
 have ka : KeepOk prog w s₀ (.raw (.builtin "list.append")) := keep_bi _
 have kb : KeepOk prog w s₀ (.raw (.builtin "dict.get")) := keep_bi _
 repeat' walk_at "go"
 refine Op1.field C.x C.fR hS.s hS.d (v := .ref RD) rfl rfl ?_
 repeat' walk_at "go"
 refine Op2.isNone_no rfl ?_
 repeat' walk_at "go"
 refine Op1.field C.x C.fN hS.s hS.d (v := .dct (n2iOf l)) rfl rfl ?_
 repeat' walk_at "go"
 refine T1.fors ?_
 repeat' walk_at "go"
 refine ⟨_, OpIt.tup r.h, fun i m' H' => (i = 0 ∧ H = H' ∨ i = 1 ∧ Sf H00 H' S D RD l ((scOf l v).foldl relax (up np v (-2), rd)).1 ((scOf l v).foldl relax (up np v (-2), rd)).2 pp (ff + 1)) ∧ Has m' [(Str.ofString "self", .ref S), (Str.ofString "n2i", .dct (n2iOf l))], ⟨.inl ⟨rfl, rfl⟩, by walk_at "has"⟩, ?_, ?_⟩
 ·rintro i x m' H' hx ⟨hi, hm⟩
  walk_at "i,x,m',H'|hx,hi,hm"
  obtain ⟨v', hv', rfl⟩ := intsV_get hx
  walk_at "v'|hv',hx"
  have hi0 : i = 0 := by have := (List.getElem?_eq_some_iff.mp hv').1; simp at this; exact this
  subst hi0
  cases hv'
  obtain ⟨_, rfl⟩ := hi.resolve_right (fun q => absurd q.1 (by decide))
  clear hi
  obtain ⟨d, hd, rfl, h1, h2⟩ := hS.find hv
  walk_at "d|hd,hv,hnp,h,hx,h1,h2"
  have hsc := scOf_at hS.nd hd
  refine TA.has hm ?_
  simp only [Loc.ofArgs, List.foldl]
  refine TA.name hE s1 ?_
  repeat' walk_at "go"
  refine OpM.dct F.slot_dict_get (by rfl) ?_
  repeat' walk_at "go"
  refine TC.dget_dct ?_
  rw [h1]
  refine TA.name hE s2 ?_
  repeat' walk_at "go"
  refine Op2.isNone_no rfl ?_
  repeat' walk_at "go"
  refine Op1.slot C.x C.t1 h2 rfl rfl ?_
  repeat' walk_at "go"
  rw [if_neg (by simp [hnp])]
  repeat' walk_at "go"
  refine OpU.slot C.x C.t1 h2 ?_
  have hS1 := hS.set hd (-2)
  rw [show (H.put d.a (.node 54 (slput [some (.int d.k), some (.int (np d.k)), some (.lst (intsV d.sc))] 1 (.int (-2))))) = (H.put d.a (.node 54 [some (.int d.k), some (.int (-2)), some (.lst (intsV d.sc))])) from rfl]
  generalize (H.put d.a (.node 54 [some (.int d.k), some (.int (-2)), some (.lst (intsV d.sc))])) = H1 at *
  have h3 := hS1.o d hd
  repeat' walk_at "go"
  refine T1.fors ?_
  repeat' walk_at "go"
  refine Op1.slot C.x C.t2 h3 rfl rfl ?_
  refine ⟨_, OpIt.lst r.h, fun i m' H' => Sf H00 H' S D RD l ((d.sc.take i).foldl relax (up np d.k (-2), rd)).1 ((d.sc.take i).foldl relax (up np d.k (-2), rd)).2 pp ff ∧ Has m' [(Str.ofString "self", .ref S), (Str.ofString "n2i", .dct (n2iOf l))], ⟨hS1, by walk_at "has"⟩, ?_, ?_⟩
  ·rintro i x m' H' hx ⟨hS', hm⟩
   walk_at "i,x,m',H'|hx,hS',hm"
   obtain ⟨u, hu, rfl⟩ := intsV_get hx
   walk_at "u|hu,hx"
   have hlen := relax_len (d.sc.take i) (up np d.k (-2), rd)
   have hdz := hsz d hd
   rw [List.length_take] at hlen
   have hfold : (d.sc.take (i + 1)).foldl relax (up np d.k (-2), rd) = relax ((d.sc.take i).foldl relax (up np d.k (-2), rd)) u := by rw [List.take_add_one, hu, List.foldl_append]; rfl
   simp only [hfold]
   generalize (d.sc.take i).foldl relax (up np d.k (-2), rd) = st at *
   dsimp only at hlen
   obtain ⟨e, he, rfl, g1, g2⟩ := hS'.find (hcl d hd u (List.mem_of_getElem? hu))
   walk_at "e|he,hu,hx,hfold,g1,g2"
   refine TA.has hm ?_
   simp only [Loc.ofArgs, List.foldl]
   refine TA.name hE s4 ?_
   repeat' walk_at "go"
   refine Op2.tail_dct (fun _ _ => ⟨_, rfl⟩) (Op2.item_dct g1 ?_)
   repeat' walk_at "go"
   refine Op1.slot C.x C.t1 g2 rfl rfl ?_
   repeat' walk_at "go"
   refine OpU.slot C.x C.t1 g2 ?_
   have hS2 := hS'.set he (st.1 e.k - 1)
   rw [show (H'.put e.a (.node 54 (slput [some (.int e.k), some (.int (st.1 e.k)), some (.lst (intsV e.sc))] 1 (.int (st.1 e.k - 1))))) = (H'.put e.a (.node 54 [some (.int e.k), some (.int (st.1 e.k - 1)), some (.lst (intsV e.sc))])) from rfl]
   generalize (H'.put e.a (.node 54 [some (.int e.k), some (.int (st.1 e.k - 1)), some (.lst (intsV e.sc))])) = H2 at *
   have g3 := hS2.o e he
   rw [show up st.1 e.k (st.1 e.k - 1) e.k = st.1 e.k - 1 by simp [up]] at g3
   repeat' walk_at "go"
   refine Op1.slot C.x C.t1 g3 rfl rfl ?_
   repeat' walk_at "go"
   unfold relax
   by_cases h0 : st.1 e.k - 1 = 0
   ·rw [if_pos (by simp [h0])]
    repeat' walk_at "go"
    refine Op1.field C.x C.fR hS2.s hS2.d (v := .ref RD) rfl rfl ?_
    refine OpM.list hS2.r slot_list_append (by rfl) ?_
    repeat' walk_at "go"
    refine TC.append hS2.r (by simp [intsV, sizeLine_eq]; exact o138 hz hdz hlen) ?_
    rw [show intsV st.2 ++ [V.int e.k] = intsV (st.2 ++ [e.k]) by simp [intsV]]
    repeat' walk_at "go"
    refine ⟨?_, by walk_at "has"⟩
    rw [if_pos h0]
    exact hS2.rdy _
   ·rw [if_neg (by simp [h0])]
    repeat' walk_at "go"
    refine ⟨?_, by walk_at "has"⟩
    rw [if_neg h0]
    exact hS2
  ·rintro m' H' ⟨hS', hm⟩
   walk_at "m',H'|hS',hm"
   rw [List.take_of_length_le (by simp [intsV]), ← hsc] at hS'
   show TS prog w s₀ A env _ _ m' H'
   refine TS.has hm ?_
   simp only [Loc.ofArgs, List.foldl]
   repeat' walk_at "go"
   refine Op1.field C.x C.fF hS'.s hS'.d (v := .int ff) rfl rfl ?_
   repeat' walk_at "go"
   refine OpU.field C.x C.fF hS'.s hS'.d (by simp [fields]) ?_
   rw [show fput (fields (.dct (n2iOf l)) (.ref RD) pp ff) (Str.ofString "_nfinished") (.int (ff + 1)) = fields (.dct (n2iOf l)) (.ref RD) pp (ff + 1) by simp [fput, fields, ofString_eq]]
   repeat' walk_at "go"
   exact ⟨.inr ⟨by trivial, hS'.cnt _ _⟩, by walk_at "has"⟩
 ·rintro m' H' ⟨hi, hm⟩
  rcases hi with ⟨hi, _⟩ | ⟨_, hS'⟩
  ·simp [intsV] at hi
  ·exact TS.nil (h H' hS')
end
section
/-! how many ways cost the least -/
variable {W : List (List Nat)} {T : List Tab} {nr : List Int} {t : Tab} {F : List Way} {pos : Int → Nat}
noncomputable def nW (F : List Way) (t : Tab) (v : Int) : Nat := cntW F v (tv t v)
theorem cntW_cons (p : Way) (l : List Way) (v d : Int) : cntW (p :: l) v d = (if endOf p = v ∧ p.2 = d then 1 else 0) + cntW l v d := by
 unfold cntW
 rw [List.filter_cons]
 by_cases h1 : endOf p = v <;> by_cases h2 : p.2 = d <;> simp [h1, h2, Nat.add_comm]
theorem cntW_append (a b : List Way) (v d : Int) : cntW (a ++ b) v d = cntW a v d + cntW b v d := by simp [cntW]
theorem cntW_flat (f : Way → List Way) (v d : Int) : ∀ l : List Way, cntW (l.flatMap f) v d = (l.map fun p => cntW (f p) v d).sum
 | [] => rfl
 | p :: l => by rw [List.flatMap_cons, cntW_append, cntW_flat f v d l, List.map_cons, List.sum_cons]
theorem cnt_ext1 (p : Way) (v d : Int) : ∀ tab : Tab, (tab.map (·.1)).Nodup → cntW (tab.flatMap (ext1 p)) v d = match gget tab v with
  | some c => if v ∉ p.1 ∧ p.2 + c = d then 1 else 0
  | none => 0 := by
 walk_at "p,v,d|"
 intro xs0
 induction xs0 with
 | nil => exact fun _ => rfl
 | cons e tab ih =>
  intro nd
  walk_at "e,tab|ih,nd"
  rw [List.map_cons, List.nodup_cons] at nd
  rw [List.flatMap_cons, cntW_append, ih nd.2]
  have e1 : cntW (ext1 p e) v d = if e.1 = v ∧ v ∉ p.1 ∧ p.2 + e.2 = d then 1 else 0 := by
   unfold ext1
   by_cases h : p.1.any (· == e.1) = true
   ·rw [if_pos h, if_neg]
    ·rfl
    ·rintro ⟨rfl, h2, _⟩
     exact h2 (by simpa using h)
   ·rw [if_neg h, cntW_cons, endOf_snoc]
    have h' : e.1 ∉ p.1 := by simpa using h
    by_cases q : e.1 = v
    ·subst q; simp [h', cntW]
    ·simp [q, cntW]
  rw [e1]
  by_cases q : e.1 = v
  ·subst q
   have g1 : gget (e :: tab) e.1 = some e.2 := by simp [gget]
   have g2 : gget tab e.1 = none := by
    cases h : gget tab e.1 with
    | none => rfl
    | some c => exact (nd.1 (List.mem_map_of_mem (f := (·.1)) (gget_of h))).elim
   rw [g1, g2]
   simp
  ·have g1 : gget (e :: tab) v = gget tab v := by simp [gget, q]
   rw [g1, if_neg (fun h => q h.1), Nat.zero_add]
theorem Fd.tight_pos (f : Fd W T nr t) (o : Ord T t pos) {p : Way} (hp : IsWay T p) : p.2 = tv t (endOf p) → ∀ v ∈ p.1, pos (endOf p) ≤ pos v := by
 walk_at "W,T,nr,t,pos,p|f,o,hp"
 induction hp with
 | zero =>
  intro _ v hv
  have : v = 0 := by simpa using hv
  subst this; exact Nat.le_refl _
 | step p x c hp he hx ih =>
  walk_at "p,x,c|hp,he,hx,ih"
  intro e v hv
  walk_at "v|hv"
  rw [endOf_snoc] at e ⊢
  have hu := f.way hp
  obtain ⟨s1, s2, s3, s4, _⟩ := f.step hu he
  have l1 := (f.dist hu).le p hp rfl
  have e' : p.2 + c = tv t x := e
  have hlt := o.lt _ _ hu s1 (tgt_iff.mpr ⟨c, f.get hu he, by omega⟩)
  rcases List.mem_append.mp hv with hv | hv
  ·have := ih (by omega) v hv
   exact o323 hlt this
  ·cases List.mem_singleton.mp hv; exact Nat.le_refl _
theorem sum_swap (t : Tab) (U : List Int) (nd : U.Nodup) : ∀ l : List Way, (l.map fun p => if endOf p ∈ U ∧ p.2 = tv t (endOf p) then 1 else 0).sum = (U.map fun u => cntW l u (tv t u)).sum := by
 walk_at "t,U|nd"
 intro xs0
 induction xs0 with
 | nil =>
  have : (U.map fun u => cntW [] u (tv t u)) = U.map fun _ => 0 := List.map_congr_left fun u _ => rfl
  rw [this]
  clear this nd
  induction U with
  | nil => rfl
  | cons u U ih => simpa using ih
 | cons p l ih =>
  walk_at "p,l|ih"
  rw [List.map_cons, List.sum_cons, ih]
  have key : ∀ U : List Int, U.Nodup → (U.map fun u => cntW (p :: l) u (tv t u)).sum = (if endOf p ∈ U ∧ p.2 = tv t (endOf p) then 1 else 0) + (U.map fun u => cntW l u (tv t u)).sum := by
   intro U
   induction U with
   | nil => intro _; simp
   | cons u U ih =>
    intro nd
    obtain ⟨n1, n2⟩ := List.nodup_cons.mp nd
    rw [List.map_cons, List.sum_cons, ih n2, cntW_cons, List.map_cons, List.sum_cons]
    by_cases q : endOf p = u
    ·subst q
     rw [if_neg (fun h => n1 h.1 : ¬ (endOf p ∈ U ∧ p.2 = tv t (endOf p)))]
     by_cases q2 : p.2 = tv t (endOf p)
     ·rw [if_pos ⟨rfl, q2⟩, if_pos ⟨by simp, q2⟩]; exact o324
     ·rw [if_neg (fun h => q2 h.2), if_neg (fun h => q2 h.2)]; exact o325
    ·rw [if_neg (fun h => q h.1 : ¬ (endOf p = u ∧ p.2 = tv t u))]
     have : (endOf p ∈ u :: U) ↔ endOf p ∈ U := by simp [q]
     simp only [this]
     exact o326
  rw [key U nd]
theorem Fd.count (f : Fd W T nr t) (o : Ord T t pos) (hF : F = ([0], 0) :: F.flatMap (ext T)) (hall : ∀ q, q ∈ F ↔ IsWay T q) {v : Int} (hv : v ∈ ks t) (h0 : v ≠ 0) : nW F t v = ((needsP T t v).map (nW F t)).sum := by
 walk_at "W,T,nr,t,F,pos,v|f,o,hF,hall,hv,h0"
 have e1 : nW F t v = (F.map fun p => cntW (ext T p) v (tv t v)).sum := by
  unfold nW
  conv => lhs; rw [hF]
  rw [cntW_cons, if_neg, Nat.zero_add, cntW_flat]
  exact fun h => h0 h.1.symm
 have nd : (needsP T t v).Nodup := List.Nodup.sublist List.filter_sublist f.nd
 rw [e1]
 have e2 := sum_swap t (needsP T t v) nd F
 show _ = ((needsP T t v).map fun u => cntW F u (tv t u)).sum
 rw [← e2]
 congr 1
 refine List.map_congr_left fun p hp => ?_
 walk_at "p|hp"
 have hw := (hall p).mp hp
 have hu := f.way hw
 have l1 := (f.dist hu).le p hw rfl
 unfold ext
 rw [cnt_ext1 p v (tv t v) _ (f.g.ok.nd _ (tabAt_mem f.g.ok (f.rg hu)))]
 cases hg : gget (tabAt T (endOf p)) v with
 | none =>
  rw [if_neg]
  rintro ⟨h1, _⟩
  obtain ⟨c, hc, _⟩ := tgt_iff.mp (needs_mem.mp h1).2
  rw [hg] at hc; cases hc
 | some c =>
  walk_at "c|hg"
  have he := gget_of hg
  obtain ⟨s1, s2, s3, s4, _⟩ := f.step hu he
  dsimp only
  by_cases h : v ∉ p.1 ∧ p.2 + c = tv t v
  ·rw [if_pos h, if_pos]
   exact ⟨needs_mem.mpr ⟨hu, tgt_iff.mpr ⟨c, hg, by exact o327 l1 s3 h⟩⟩, by exact o328 l1 s3 h⟩
  ·rw [if_neg h, if_neg]
   rintro ⟨h1, h2⟩
   have ht := (needs_mem.mp h1).2
   obtain ⟨c', hc', e⟩ := tgt_iff.mp ht
   rw [hg] at hc'; cases hc'
   refine h ⟨fun hm => ?_, by exact o329 h2 e⟩
   have := f.tight_pos o hw h2 v hm
   have := o.lt _ _ hu hv ht
   omega
theorem zero_in {p : Way} (h : IsWay T p) : (0 : Int) ∈ p.1 := by
 induction h with
 | zero => simp
 | step p v c hp he hv ih => exact List.mem_append.mpr (.inl ih)
theorem Fd.count0 (f : Fd W T nr t) (hF : F = ([0], 0) :: F.flatMap (ext T)) (hall : ∀ q, q ∈ F ↔ IsWay T q) : nW F t 0 = 1 := by
 have hz : (0 : Int) ∈ ks t := f.way (p := ([0], 0)) .zero
 have d0 : tv t 0 = 0 := by
  have h1 := (f.dist hz).le ([0], 0) .zero rfl
  obtain ⟨q, hq, -, e⟩ := (f.dist hz).at_
  have := hq.pos f.g
  have h1 : tv t 0 ≤ 0 := h1
  omega
 unfold nW
 rw [hF, cntW_cons, if_pos ⟨rfl, d0.symm⟩, cntW_zero]
 intro q hq e
 obtain ⟨p, hp, hx⟩ := List.mem_flatMap.mp hq
 obtain ⟨v, c, h1, h2, rfl⟩ := ext_mem.mp hx
 rw [endOf_snoc] at e
 subst e
 exact (h2 (zero_in ((hall p).mp hp))).elim
/-! the sorter at work -/
theorem relax_fold : ∀ (S : List Int) (np : Int → Int) (rd : List Int), S.Nodup → (∀ x, (S.foldl relax (np, rd)).1 x = if x ∈ S then np x - 1 else np x) ∧ (S.foldl relax (np, rd)).2 = rd ++ S.filter fun s => decide (np s - 1 = 0) := by
 intro xs0
 induction xs0 with
 | nil => exact fun np rd _ => by simp
 | cons s S ih =>
  intro np rd nd
  walk_at "s,S,np,rd|ih,nd"
  obtain ⟨n1, n2⟩ := List.nodup_cons.mp nd
  rw [List.foldl_cons]
  obtain ⟨h1, h2⟩ := ih (up np s (np s - 1)) (if np s - 1 = 0 then rd ++ [s] else rd) n2
  have e : relax (np, rd) s = (up np s (np s - 1), if np s - 1 = 0 then rd ++ [s] else rd) := rfl
  rw [e]
  refine ⟨fun x => ?_, ?_⟩
  ·rw [h1 x]
   by_cases q : x = s
   ·subst q; rw [if_neg n1, if_pos (by simp)]; simp [up]
   ·have : (x ∈ s :: S) ↔ x ∈ S := by simp [q]
    simp [up, q]
  ·rw [h2]
   have ef : S.filter (fun x => decide (up np s (np s - 1) x - 1 = 0)) = S.filter fun x => decide (np x - 1 = 0) := by
    refine List.filter_congr fun x hx => ?_
    have : x ≠ s := fun q => n1 (q ▸ hx)
    simp [up, this]
   rw [ef, List.filter_cons]
   by_cases q : np s - 1 = 0 <;> simp [q]
structure Kn (T : List Tab) (t : Tab) (dn out rd : List Int) (np : Int → Int) : Prop where
 nd : (dn ++ out ++ rd).Nodup
 sub : ∀ v ∈ dn ++ out ++ rd, v ∈ ks t
 oneg : ∀ v ∈ out, np v = -1
 rest : ∀ v ∈ ks t, v ∉ dn → v ∉ out → np v = ((needsP T t v).filter fun u => decide (u ∉ dn)).length ∧ (v ∈ rd ↔ np v = 0)
 pred : ∀ v ∈ dn ++ out ++ rd, ∀ u ∈ needsP T t v, u ∈ dn
theorem Kn.pass {dn rd : List Int} {np : Int → Int} (k : Kn T t dn [] rd np) : Kn T t dn rd [] (rd.foldl (fun np v => up np v (-1)) np) := by
 have hf : ∀ (l : List Int) (np : Int → Int) x, (l.foldl (fun np v => up np v (-1)) np) x = if x ∈ l then -1 else np x := by
  intro l
  induction l with
  | nil => intro np x; simp
  | cons v l ih =>
   intro np x
   rw [List.foldl_cons, ih]
   by_cases q : x ∈ l
   ·simp [q]
   ·by_cases q2 : x = v <;> simp [q, q2, up]
 have hnd := k.nd
 have hsub := k.sub
 have hpred := k.pred
 rw [List.append_nil] at hnd hsub hpred
 refine ⟨by rw [List.append_nil]; exact hnd, by rw [List.append_nil]; exact hsub, fun v hv => by rw [hf, if_pos hv], fun v h1 h2 h3 => ?_, by rw [List.append_nil]; exact hpred⟩
 obtain ⟨a, b⟩ := k.rest v h1 h2 (by simp)
 rw [hf, if_neg h3]
 exact ⟨a, by simp; exact fun q => h3 (b.mpr q)⟩
theorem Kn.done (f : Fd W T nr t) {l : List Nd} (o : NdOk T t l) {dn out rd : List Int} {np : Int → Int} {v : Int} (k : Kn T t dn (v :: out) rd np) : Kn T t (dn ++ [v]) out ((scOf l v).foldl relax (up np v (-2), rd)).2 ((scOf l v).foldl relax (up np v (-2), rd)).1 := by
 walk_at "W,T,nr,t,l,dn,out,rd,np,v|f,o,k"
 have hvk : v ∈ ks t := k.sub v (by simp)
 have hnd : (dn ++ v :: out ++ rd).Nodup := k.nd
 have hvd : v ∉ dn := fun q => by
  rw [List.append_assoc, List.nodup_append] at hnd
  exact hnd.2.2 v q v (by simp) rfl
 have hS : (scOf l v).Nodup := by rw [o.succ hvk]; exact List.Nodup.sublist List.filter_sublist f.nd
 obtain ⟨h1, h2⟩ := relax_fold (scOf l v) (up np v (-2)) rd hS
 have hmem : ∀ x, x ∈ scOf l v ↔ x ∈ ks t ∧ v ∈ needsP T t x := fun x => by
  rw [o.mem hvk, needs_mem]
  exact ⟨fun h => ⟨h.1, hvk, h.2⟩, fun h => ⟨h.1, h.2.2⟩⟩
 have hno : ∀ x ∈ scOf l v, x ∉ dn ∧ x ∉ out ∧ x ∉ rd ∧ x ≠ v := fun x hx => by
  have hv2 := ((hmem x).mp hx).2
  have : ∀ y ∈ dn ++ v :: out ++ rd, x ≠ y := fun y hy q => by
   subst q
   exact hvd (k.pred x hy v hv2)
  exact ⟨fun q => this x (by simp [q]) rfl, fun q => this x (by simp [q]) rfl, fun q => this x (by simp [q]) rfl, fun q => this v (by simp) q⟩
 have upx : ∀ x, x ≠ v → up np v (-2) x = np x := fun x q => by simp [up, q]
 have cnt : ∀ x, v ∈ needsP T t x → ((needsP T t x).filter fun u => decide (u ∉ dn)).length = ((needsP T t x).filter fun u => decide (u ∉ dn ++ [v])).length + 1 := fun x hx => by
  have nd : (needsP T t x).Nodup := List.Nodup.sublist List.filter_sublist f.nd
  have key : ∀ l : List Int, l.Nodup → v ∈ l → (l.filter fun u => decide (u ∉ dn)).length = (l.filter fun u => decide (u ∉ dn ++ [v])).length + 1 := by
   intro l
   walk_at "l|"
   induction l with
   | nil => intro _ h; cases h
   | cons u l ih =>
    walk_at "u,l|ih"
    intro n h
    obtain ⟨n1, n2⟩ := List.nodup_cons.mp n
    by_cases e : u = v
    ·subst e
     have e2 : l.filter (fun x => decide (x ∉ dn ++ [u])) = l.filter fun x => decide (x ∉ dn) := by
      refine List.filter_congr fun x hx => ?_
      have : x ≠ u := fun q => n1 (q ▸ hx)
      simp [this]
     rw [List.filter_cons, List.filter_cons, e2, if_pos (by simpa using hvd), if_neg (by simp)]
     rfl
    ·have := ih n2 ((List.mem_cons.mp h).resolve_left (fun q => e q.symm))
     rw [List.filter_cons, List.filter_cons]
     by_cases d : u ∈ dn
     ·rw [if_neg (by simpa using d), if_neg (by simp [d])]; exact this
     ·rw [if_pos (by simpa using d), if_pos (by simp [d, e]), List.length_cons, List.length_cons, this]
  exact key _ nd hx
 have cnt' : ∀ x, v ∉ needsP T t x → ((needsP T t x).filter fun u => decide (u ∉ dn ++ [v])) = (needsP T t x).filter fun u => decide (u ∉ dn) := fun x hx => by
  refine List.filter_congr fun u hu => ?_
  have : u ≠ v := fun q => hx (q ▸ hu)
  simp [this]
 have newz : ∀ x, x ∈ (scOf l v).filter (fun s => decide (up np v (-2) s - 1 = 0)) → x ∈ ks t ∧ ∀ u ∈ needsP T t x, u ∈ dn ++ [v] := fun x hx => by
  obtain ⟨hx1, hx2⟩ := List.mem_filter.mp hx
  obtain ⟨a, b⟩ := (hmem x).mp hx1
  obtain ⟨n1, n2, n3, n4⟩ := hno x hx1
  rw [decide_eq_true_eq, upx x n4] at hx2
  have hr := (k.rest x a n1 (by simp [n2, n4])).1
  have hc := cnt x b
  have : ((needsP T t x).filter fun u => decide (u ∉ dn ++ [v])).length = 0 := by exact o330 hx2 hr hc
  have := List.filter_eq_nil_iff.mp (List.eq_nil_of_length_eq_zero this)
  exact ⟨a, fun u hu => Classical.byContradiction fun q => this u hu (by simpa using q)⟩
 refine ⟨?_, ?_, ?_, ?_, ?_⟩
 ·rw [h2]
  have e1 : (dn ++ [v] ++ out ++ rd).Nodup := by simpa using hnd
  have e2 : ((scOf l v).filter fun s => decide (up np v (-2) s - 1 = 0)).Nodup := List.Nodup.sublist List.filter_sublist hS
  rw [← List.append_assoc, List.nodup_append]
  refine ⟨e1, e2, fun a ha b hb q => ?_⟩
  walk_at "a,b|ha,hb,q"
  subst q
  obtain ⟨n1, n2, n3, n4⟩ := hno a (List.mem_filter.mp hb).1
  simp only [List.mem_append, List.mem_singleton] at ha
  rcases ha with ((ha | ha) | ha) | ha
  ·exact n1 ha
  ·exact n4 ha
  ·exact n2 ha
  ·exact n3 ha
 ·intro x hx
  walk_at "x|hx"
  rw [h2] at hx
  rcases List.mem_append.mp hx with hx | hx
  ·have q : x ∈ dn ∨ x = v ∨ x ∈ out := by simpa [or_assoc] using hx
   exact k.sub x (by simpa [or_assoc] using q.elim .inl fun q => .inr (q.elim .inl fun q => .inr (.inl q)))
  ·rcases List.mem_append.mp hx with hx | hx
   ·exact k.sub x (by simp [hx])
   ·exact (newz x hx).1
 ·intro x hx
  rw [h1 x, if_neg (fun q => (hno x q).2.1 hx), upx x (fun q => by
   subst q
   rw [List.append_assoc, List.nodup_append] at hnd
   exact (List.nodup_cons.mp hnd.2.1).1 (by simp [hx]))]
  exact k.oneg x (by simp [hx])
 ·intro x hxk hx1 hx2
  walk_at "x|hxk,hx1,hx2"
  simp only [List.mem_append, List.mem_singleton, not_or] at hx1
  obtain ⟨a, b⟩ := k.rest x hxk hx1.1 (by simp [hx1.2, hx2])
  rw [h1 x, h2, upx x hx1.2]
  by_cases q : x ∈ scOf l v
  ·rw [if_pos q]
   have hc := cnt x ((hmem x).mp q).2
   refine ⟨by exact o331 a hc, ?_⟩
   rw [List.mem_append, List.mem_filter, decide_eq_true_eq, upx x hx1.2]
   exact ⟨fun h => h.elim (fun h => ((hno x q).2.2.1 h).elim) (·.2), fun h => .inr ⟨q, h⟩⟩
  ·rw [if_neg q, cnt' x (fun h => q ((hmem x).mpr ⟨hxk, h⟩))]
   refine ⟨a, ?_⟩
   rw [List.mem_append, ← b]
   exact ⟨fun h => h.elim id (fun h => (q (List.mem_filter.mp h).1).elim), .inl⟩
 ·intro x hx u hu
  walk_at "x,u|hx,hu"
  rw [h2] at hx
  have old : x ∈ dn ++ v :: out ++ rd → u ∈ dn ++ [v] := fun h => List.mem_append.mpr (.inl (k.pred x h u hu))
  rcases List.mem_append.mp hx with hx | hx
  ·refine old ?_
   have q : x ∈ dn ∨ x = v ∨ x ∈ out := by simpa [or_assoc] using hx
   simpa [or_assoc] using q.elim .inl fun q => .inr (q.elim .inl fun q => .inr (.inl q))
  ·rcases List.mem_append.mp hx with hx | hx
   ·exact old (by simp [hx])
   ·exact (newz x hx).2 u hu
theorem Kn.all {dn : List Int} {np : Int → Int} (k : Kn T t dn [] [] np) (o : Ord T t pos) : ∀ v ∈ ks t, v ∈ dn := by
 have bound : ∃ M, ∀ v ∈ ks t, pos v ≤ M := by
  generalize ks t = l
  induction l with
  | nil => exact ⟨0, by simp⟩
  | cons a l ih =>
   obtain ⟨M, h⟩ := ih
   refine ⟨max M (pos a), fun v hv => ?_⟩
   rcases List.mem_cons.mp hv with rfl | hv
   ·exact o332
   ·have := h v hv; exact o333 this
 obtain ⟨M, hM⟩ := bound
 have key : ∀ n, ∀ v ∈ ks t, M - pos v = n → v ∈ dn := by
  intro n
  induction n using Nat.strongRecOn with
  | ind n ih =>
   intro v hv hn
   refine Classical.byContradiction fun hd => ?_
   obtain ⟨a, b⟩ := k.rest v hv hd (by simp)
   have hz : ((needsP T t v).filter fun u => decide (u ∉ dn)) = [] := by
    rw [List.filter_eq_nil_iff]
    intro u hu q
    have hu' := needs_mem.mp hu
    have h1 := o.lt u v hu'.1 hv hu'.2
    have h2 := hM u hu'.1
    have h3 := hM v hv
    exact (by simpa using q : u ∉ dn) (ih (M - pos u) (by exact o334 hn h1 h2) u hu'.1 rfl)
   rw [hz] at a
   exact (List.not_mem_nil (b.mpr a)).elim
 exact fun v hv => key _ v hv rfl
theorem Kn.start (T : List Tab) (t : Tab) (nd : (ks t).Nodup) {np : Int → Int} {rd : List Int} (h : ∀ v ∈ ks t, np v = (needsP T t v).length) (hr : rd.Nodup) (hm : ∀ v, v ∈ rd ↔ v ∈ ks t ∧ np v = 0) : Kn T t [] [] rd np := by
 refine ⟨by simpa using hr, fun v hv => ((hm v).mp (by simpa using hv)).1, by simp, fun v hv _ _ => ⟨by rw [h v hv, List.filter_eq_self.mpr (fun u _ => by simp)], ?_⟩, fun v hv u hu => ?_⟩
 ·rw [hm]; exact ⟨(·.2), fun q => ⟨hv, q⟩⟩
 ·obtain ⟨a, b⟩ := (hm v).mp (by simpa using hv)
  rw [h v a] at b
  have : needsP T t v = [] := List.eq_nil_of_length_eq_zero (by exact o72 b)
  rw [this] at hu; cases hu
end
section
open PySem.Calls
variable {H00 : Hp} {S D RD : Addr} {l : List Nd} {K : Frag} {np : Int → Int} {pp ff : Int}
theorem tc_active {n : Nat} (P : Prg s₀ mg mb) (C : Cls s₀ K) (r : Room A (n + 1)) {rd : List Int} (hS : Sf H00 H S D RD l np rd pp ff) (hz : rd.length ≤ 1000) {Q : V → Hp → Prop} (h : Q (.bool (decide (ff < pp) || !rd.isEmpty)) H) :
  TC prog w s₀ A (.raw (.ref 120)) [.ref S] Q H := by
 obtain ⟨p, hp, hat⟩ := C.a5
 refine TCd.tc ?_
 have e := def_eq hp rfl
 have hpar := congrArg DefParts.params e
 have hs := congrArg DefParts.scope e
 dsimp only at hs hpar
 refine TCd.at (names := [Str.ofString "self"]) hat r.lt (by rw [hs]; rfl) rfl (fun n q kv dc pm an cd ct xs hx => ?_) (by rw [hs]; rfl) (fun n q kv dc pm an cd ct L => ?_)
 ·obtain ⟨x0, rfl⟩ := Mine.len1 hx; unfold mkFd; rw [hpar]; rfl
 exact active_body p hp L P C hS hz h
theorem tc_ready {n : Nat} (P : Prg s₀ mg mb) (C : Cls s₀ K) (r : Room A (n + 1)) {rd : List Int} (hS : Sf H00 H S D RD l np rd pp ff) (hz : rd.length ≤ 1000) (hk : ∀ v ∈ rd, v ∈ l.map (·.k)) {Q : V → Hp → Prop}
  (h : ∀ H', Sf H00 H' S D RD l (rd.foldl (fun np v => up np v (-1)) np) [] (pp + rd.length) ff → Q (.tup (intsV rd)) H') : TC prog w s₀ A (.raw (.ref 113)) [.ref S] Q H := by
 obtain ⟨p, hp, hat⟩ := C.a4
 refine TCd.tc ?_
 have e := def_eq hp rfl
 have hpar := congrArg DefParts.params e
 have hs := congrArg DefParts.scope e
 dsimp only at hs hpar
 refine TCd.at (names := [Str.ofString "self"]) hat r.lt (by rw [hs]; rfl) rfl (fun n q kv dc pm an cd ct xs hx => ?_) (by rw [hs]; rfl) (fun n q kv dc pm an cd ct L => ?_)
 ·obtain ⟨x0, rfl⟩ := Mine.len1 hx; unfold mkFd; rw [hpar]; rfl
 exact ready_body p hp L P C (r.deeper _) hS hz hk h
theorem tc_done {n : Nat} (P : Prg s₀ mg mb) (C : Cls s₀ K) (r : Room A (n + 1)) {rd : List Int} {v : Int} (hS : Sf H00 H S D RD l np rd pp ff) (hz : rd.length ≤ 1000) (hv : v ∈ l.map (·.k)) (hnp : np v = -1) (hcl : ∀ d ∈ l, ∀ v ∈ d.sc, v ∈ l.map (·.k)) (hsz : ∀ d ∈ l, d.sc.length ≤ 1000) {Q : V → Hp → Prop}
  (h : ∀ H', Sf H00 H' S D RD l ((scOf l v).foldl relax (up np v (-2), rd)).1 ((scOf l v).foldl relax (up np v (-2), rd)).2 pp (ff + 1) → Q .none H') : TC prog w s₀ A (.raw (.ref 134)) [.ref S, .int v] Q H := by
 obtain ⟨p, hp, hat⟩ := C.a7
 have e := def_eq hp rfl
 have hpar := congrArg DefParts.params e
 have hs := congrArg DefParts.scope e
 dsimp only at hs hpar
 obtain ⟨o, n, q, kv, dc, pm, an, cd, ct, h1, h2, h3⟩ := hat.ex
 refine (TCd.defn h1 h2 h3 rfl r.lt (by show plainScope p.scope = true; rw [hs]; rfl) (TBind.star (names := [Str.ofString "self"]) (va := Str.ofString "nodes") (vs := [.ref S]) (us := intsV [v]) rfl (fun xs ys hx => ?_) (by simp [intsV, sizeLine_eq])) (show (List.all ([Str.ofString "self"].zip [V.ref S] ++ [(Str.ofString "nodes", V.tup (intsV [v]))]) fun x => decide (p.scope.names.lookup x.1 = some NameKind.local)) = true from by rw [hs]; rfl) fun L => ?_).tc
 ·obtain ⟨x, rfl⟩ := len1 hx
  unfold mkFd; rw [hpar]
  unfold bindArgs
  dsimp only [List.map, Option.isNone, Option.isSome]
  simp only [Bool.and_false]
  rfl
 ·rw [ofArgs_lookup]
  exact done_body p hp L P C (r.deeper _) hS hz hv hnp hcl hsz h
end
section
open PySem.Calls
variable {K : Frag}
theorem TIfs.mono {cs : List Expr} {Q Q' : Bool → Loc → Hp → Prop} (h : TIfs prog w s₀ A env cs Q m H) (hq : ∀ v m H, Q v m H → Q' v m H) : TIfs prog w s₀ A env cs Q' m H := .mk fun B Z s R => by
 refine wpAny_mono (h.run B Z s R) ?_ (fun _ _ x => x)
 rintro b s1 ⟨m1, H1, Z1, l1, R1, q⟩
 exact ⟨m1, H1, Z1, l1, R1, hq _ _ _ q⟩
theorem cells_above : ∀ (names : List (Str × NameKind)) (n : Nat) (acc : List (Str × Addr)) (x : Str) (c : Addr), (cellsFrom n names acc).lookup x = some c → n ≤ c ∨ acc.lookup x = some c
 | [], n, acc, x, c, h => .inr h
 | (y, k) :: r, n, acc, x, c, h => by
  unfold cellsFrom at h
  split at h
  ·rcases cells_above r (n + 1) _ x c h with h | h
   ·exact .inl (by exact o139 h)
   ·rw [List.lookup_cons] at h
    by_cases q : x = y
    ·rw [beq_iff_eq.mpr q] at h; cases h; exact .inl (Nat.le_refl _)
    ·rw [beq_eq_false_iff_ne.mpr q] at h; exact .inr h
  ·exact cells_above r n acc x c h
theorem stored_cell {fd : FuncData} {L fa : Addr} {x : Str} (h : fd.scope.names.lookup x = some .cell) : stored? (callEnvC fd L fa) x = true := by
 have h1 := (cellsFrom_mem fd.scope.names (L + 1) x).mpr (mem_of_lookup h)
 obtain ⟨c, hc⟩ := Option.isSome_iff_exists.mp h1
 have h2 : L + 1 ≤ c := (cells_above _ _ _ _ _ hc).resolve_right (fun q => by cases q)
 have e1 : (callEnvC fd L fa).kindOf x = some .cell := h
 have e2 : (callEnvC fd L fa).cells.lookup x = some c := hc
 have e3 : L < c := h2
 unfold stored? ownCell
 rw [e1, e2]
 show ((some NameKind.cell == some NameKind.local) || ((some NameKind.cell == some NameKind.cell) && decide (L < c))) = true
 rw [decide_eq_true e3]; rfl
noncomputable def ReadsL (env : Env) (m : Loc) (fr : List Str) : Prop := ∀ n ∈ fr, (env.kindOf n = some .cell ∨ env.kindOf n = some .free) ∧ ∃ v, m n = some v
theorem ReadsL.nil : ReadsL env m [] := fun _ h => nomatch h
theorem ReadsL.cons {n : Str} {v : V} {fr : List Str} (h1 : env.kindOf n = some .cell ∨ env.kindOf n = some .free) (h2 : m n = some v) (r : ReadsL env m fr) : ReadsL env m (n :: fr) := fun x hx => by
 rcases List.mem_cons.mp hx with rfl | hx
 ·exact ⟨h1, v, h2⟩
 ·exact r x hx
theorem Reads.of {scope : Scope} {fr : List Str} (h : (scope.names.all fun x => x.2 != .free || fr.any fun y => decide (y = x.1)) = true) (hr : ReadsL env m fr) : Reads scope env m := fun n hn => by
 have := List.all_eq_true.mp h _ (mem_of_lookup hn)
 simp only [Bool.or_eq_true, List.any_eq_true, decide_eq_true_eq] at this
 rcases this with h | ⟨y, hy, rfl⟩
 ·exact absurd h (by decide)
 ·exact hr y hy
theorem capt_look {scope : Scope} {x n : Str} {u v : V} (hn : n ≠ x) (h : scope.names.lookup n = some .free) (hm : m n = some v) : ((capt scope m).put x u) n = some v := by
 unfold Loc.put capt; rw [if_neg hn, if_pos h]; exact hm
theorem put_self (m : Loc) (x : Str) (u : V) : (m.put x u) x = some u := by unfold Loc.put; rw [if_pos rfl]
noncomputable abbrev stepsV (T : List Tab) : V := .lst (T.map fun t => .dct (kvI t))
structure CEnv (scope : Scope) (ce : Env) : Prop where
 E : EnvOk ce
 k : ∀ y k, scope.names.lookup y = some k → k ≠ .free → ce.kindOf y = some k
 f : ∀ y, scope.names.lookup y = some .free → ce.kindOf y = some .cell ∨ ce.kindOf y = some .free
theorem CEnv.held {scope : Scope} {ce : Env} (c : CEnv scope ce) {y : Str} (h : (match scope.names.lookup y with | some .local => true | some .cell => true | some .free => true | _ => false) = true) (hc : (!(y == ("__classdict__" : Str)) && !(y == ("__debug__" : Str))) = true := by decide +kernel) : heldN ce y = true := by
 walk_at "scope,ce,y|c,h,hc"
 unfold heldN
 rw [Bool.and_assoc, hc, Bool.and_true]
 cases e : scope.names.lookup y with
 | none => rw [e] at h; cases h
 | some k =>
  walk_at "k|e"
  rw [e] at h
  cases k with
  | «local» => rw [c.k y _ e (by decide)]; rfl
  | cell => rw [c.k y _ e (by decide)]; rfl
  | free => rcases c.f y e with q | q <;> rw [q] <;> rfl
  | _ => cases h
theorem CEnv.glob {scope : Scope} {ce : Env} (c : CEnv scope ce) {y : Str} (h : scope.names.lookup y = some .globalImplicit) : ce.kindOf y = some .globalImplicit := c.k y _ h (by decide)
theorem cenv_stored {scope : Scope} {C : Addr} {x : Str} (h : scope.names.lookup x = some .local ∨ scope.names.lookup x = some .cell) : stored? (cenvOf scope env C) x = true := by
 rcases h with h | h
 ·unfold stored?; rw [cenv_kind h (by decide)]; rfl
 ·have h1 := (cellsFrom_mem scope.names (C + 1) x).mpr (mem_of_lookup h)
  obtain ⟨c, hc⟩ := Option.isSome_iff_exists.mp h1
  have h2 : C + 1 ≤ c := (cells_above _ _ _ _ _ hc).resolve_right (fun q => by cases q)
  have e2 : (cenvOf scope env C).cells.lookup x = some c := by
   show (cellsFrom (C + 1) scope.names (closeOver env scope.names [])).lookup x = _
   rw [cellsFrom_append, List.lookup_append, hc]; rfl
  have e3 : C < c := h2
  unfold stored? ownCell
  rw [cenv_kind h (by decide), e2]
  show ((some NameKind.cell == some NameKind.local) || ((some NameKind.cell == some NameKind.cell) && decide (C < c))) = true
  rw [decide_eq_true e3]; rfl
theorem Turns.go {elt : Expr} {tx : Str} {tp : Pos} {ifs : List Expr} {scope : Scope} {F : Loc → Hp → List V → Prop} {v : V} {xs : List V} {f : V → Option V} (hE : EnvOk env) (hk : scope.kind = .function) (hx : scope.names.lookup tx = some .local ∨ scope.names.lookup tx = some .cell)
  (it : OpIt prog w s₀ A (.Name tx tp) v xs H) (hl : xs.length ≤ sizeLine) (hr : Reads scope env m)
  (h : ∀ ce, CEnv scope ce → ∀ (i : Nat) x, xs[i]? = some x → ∀ M : Loc, M tx = some x → (∀ n u, n ≠ tx → scope.names.lookup n = some .free → m n = some u → M n = some u) →
   TIfs prog w s₀ A ce ifs (fun ok m3 H3 => if ok = true then TE prog w s₀ A ce elt (fun v m4 H4 => f x = some v ∧ m4 = M ∧ H4 = H) m3 H3 else f x = none ∧ m3 = M ∧ H3 = H) M H)
  (hF : F m H (xs.filterMap f)) : Turns prog w s₀ A env elt tx tp ifs scope F v m H := by
 walk_at "prog,w,s₀,H,env,m,A,elt,tx,tp,ifs,scope,F,v,xs,f|hE,hk,hx,it,hl,hr,h,hF"
 refine ⟨xs, f, it, hl, hr, fun C i x hi => ?_, hF⟩
 walk_at "C,i,x|hi"
 refine TA.name (hE.comp hk) (cenv_stored hx) ?_
 have ce : CEnv scope (cenvOf scope env C) := ⟨hE.comp hk, fun y k h1 h2 => cenv_kind h1 h2, fun y h1 => by
  have e : (cenvOf scope env C).kindOf y = _ := relabel_lookup (env := env) scope y
  rw [h1] at e
  rw [e]
  simp only [Option.map]
  split
  ·exact .inl rfl
  ·exact .inr rfl⟩
 have hst : Stay (capt scope m) H ((capt scope m).put tx x) H := by
  refine ⟨fun y u hy => ?_, fun _ _ e => e⟩
  unfold Loc.put
  by_cases q : y = tx
  ·unfold capt at hy
   rw [q, if_neg (by rcases hx with hx | hx <;> rw [hx] <;> decide)] at hy; cases hy
  ·rw [if_neg q]; exact hy
 refine (h _ ce i x hi ((capt scope m).put tx x) (put_self _ _ _) (fun n u h1 h2 h3 => capt_look h1 h2 h3)).mono ?_
 intro ok m3 H3 hq
 walk_at "ok,m3,H3|hq"
 cases ok with
 | true =>
  rw [if_pos rfl] at hq
  refine iteT (hq.mono ?_)
  rintro v m4 H4 ⟨a, rfl, rfl⟩
  exact ⟨a, hst⟩
 | false =>
  rw [if_neg (by decide)] at hq
  obtain ⟨a, rfl, rfl⟩ := hq
  exact iteF ⟨a, hst⟩
theorem swaps_cell {elt : Expr} {gens : List Comprehension} {scope : Scope} {pos tpos : Pos} {t : Str} {line : Nat} (h : env.kindOf t = some .cell) : swapsWith (.ListComp elt gens scope pos) (some (.Name t tpos)) line env = pure false := by
 unfold swapsWith
 simp only [h]
 rw [show (some NameKind.cell == some NameKind.local) = false from rfl, Bool.and_false, Bool.false_and, Bool.false_and]
theorem swaps_local (hE : EnvOk env) {elt : Expr} {gens : List Comprehension} {scope : Scope} {pos tpos : Pos} {t : Str} {line : Nat} (h : env.kindOf t = some .local) (hp : (tpos.line == (Expr.ListComp elt gens scope pos).pos.line) = true) (hn : (scope.names.any fun x => x.1 == t && (x.2 == .local || x.2 == .cell)) = false) :
  swapsWith (.ListComp elt gens scope pos) (some (.Name t tpos)) line env = pure true := by
 have hb : env.blockKind = .function := by unfold Env.blockKind; rw [hE.kind]; rfl
 unfold swapsWith
 simp only [h, hb, hp, hn]
 rfl
noncomputable def topBody (i k : Nat) : List Stmt := match topDef i with
 | some p => p.body.drop k
 | none => []
noncomputable def fw (few : List Int) (k : Int) : List Nat := word (([13, 1, 14, 2, 3] : List Int).getD k.toNat 0 + (cutI few (some k) none (some 5)).sum)
theorem base_get {i : Nat} (h : i < 5) : [V.int 13, V.int 1, V.int 14, V.int 2, V.int 3][(i : Int).toNat]? = some (.int (([13, 1, 14, 2, 3] : List Int).getD (i : Int).toNat 0)) := by
 match i, h with
 | 0, _ => rfl
 | 1, _ => rfl
 | 2, _ => rfl
 | 3, _ => rfl
 | 4, _ => rfl
noncomputable def wordsF (few : List Int) : V → Option V
 | .int k => some (Mine.S (fw few k))
 | _ => none
noncomputable def wordsP (few : List Int) : List (List Nat) := (List.range 5).map fun (i : Nat) => fw few (0 + (i : Int))
noncomputable def nearF (W : List (List Nat)) (mo : Int) : V → Option V
 | .str x => some (.int (min (lev x.cps.toList (W.getD 4 []) mo) (mo + 1)))
 | _ => none
theorem law1 (p : DefParts) (hp : topDef 22 = some p) {fa : Addr} {n q : Str} {dv kv dc pm : Value} {an : Option Addr} {cd ct : Value} (L : Addr) (P : Prg s₀ mg mb) {rn : Nat} (r : Room A (rn + 4))
  {l : Addr} {ws : List Value} {ns : List Int} (hl : s₀.heap.IsList l ws.toArray) (hi : IntsAre ws ns) (hz : ns.length ≤ 63) {Q : V → Prop}
  (h : ∀ (W : List (List Nat)) (six : List Int) (mo : Int) (aH aT aL : Addr) (H' : Hp), W.length = 5 → (∀ a ∈ W, wordOk a) → 0 ≤ mo → mo < 8 → six.length ≤ 63 → H' aH = some (.list ([((nearP W mo).getD 0 0, 0, 0)].map T3)) → H' aT = some (.dict (kvI [])) → H' aL = some (.list (intsV [])) → aH ≠ aL →
   TS prog w s₀ A (callEnvC (mkFd p n q dv kv dc pm an cd ct) L fa) (topBody 22 9) (fun f _ _ => Q (retV f)) (Loc.ofArgs [(Str.ofString "words", .lst (W.map Mine.S)), (Str.ofString "steps", stepsV (stepsP W ([0, 5, 11, 2, 23, 18] ++ six))), (Str.ofString "near", .lst (intsV (nearP W mo))),
    (Str.ofString "heap", .ref aH), (Str.ofString "told", .ref aT), (Str.ofString "heads", .ref aL)]) H') :
  TS prog w s₀ A (callEnvC (mkFd p n q dv kv dc pm an cd ct) L fa) p.body (fun f _ _ => Q (retV f)) (Loc.put (fun _ => none) (Str.ofString "script") (.raw (.ref l))) H := by
 walk_at "prog,w,s₀,H,A,mg,mb,p,fa,n,q,dv,kv,dc,pm,an,cd,ct,L,rn,l,ws,ns,Q|hp,P,r,hl,hi,hz,h"
 try simp only [Loc.ofArgs, List.foldl]
 have e := def_eq hp rfl
 have hb := congrArg DefParts.body e
 have hs := congrArg DefParts.scope e
 dsimp only at hb hs
 rw [hb]
 have hcell : ∀ x, p.scope.names.lookup x = some .cell → stored? (callEnvC (mkFd p n q dv kv dc pm an cd ct) L fa) x = true := fun x hx => stored_cell hx
 rw [hs] at hcell
 generalize henv : callEnvC (mkFd p n q dv kv dc pm an cd ct) L fa = env at hcell h ⊢
 obtain ⟨hE, hsc⟩ := env_of henv hs rfl rfl rfl rfl
 have k0 := held_of "script" hsc rfl
 have k1 := held_of "few" hsc rfl
 have k2 := held_of "base" hsc rfl
 have k3 := held_of "words" hsc rfl
 have k4 := held_of "steps" hsc rfl
 have k5 := held_of "most" hsc rfl
 have k6 := held_of "near" hsc rfl
 have k7 := held_of "heap" hsc rfl
 have k8 := held_of "told" hsc rfl
 have k9 := held_of "heads" hsc rfl
 have s0 : stored? env (Str.ofString "few") = true := hcell _ (by rfl)
 have s1 : stored? env (Str.ofString "base") = true := hcell _ (by rfl)
 have s2 : stored? env (Str.ofString "words") = true := hcell _ (by rfl)
 have s3 : stored? env (Str.ofString "steps") = true := hcell _ (by rfl)
 have s4 : stored? env (Str.ofString "most") = true := hcell _ (by rfl)
 have s5 := stored_of "near" hsc rfl
 have s6 := stored_of "heap" hsc rfl
 have s7 : stored? env (Str.ofString "told") = true := hcell _ (by rfl)
 have s8 := stored_of "heads" hsc rfl
 have g0 := kind_g "range" hsc rfl
 have g1 := kind_g "_law_steps" hsc rfl
 have g2 := kind_g "sum" hsc rfl
 have c0 := kind_c "few" hsc rfl
 have c1 := kind_c "base" hsc rfl
 have c2 := kind_c "words" hsc rfl
 have c3 := kind_c "steps" hsc rfl
 have c4 := kind_c "most" hsc rfl
 have c5 := kind_c "told" hsc rfl
 have c6 := kind_c "v" hsc rfl
 have c7 := kind_c "ends" hsc rfl
 have c8 := kind_c "counts" hsc rfl
 have l0 : env.kindOf (Str.ofString "near") = some .local := Mine.kind_of hsc rfl
 have hG := P.G
 have v0 := P.nrange
 have b0 := boot_range
 have q0 : KeepOk prog w s₀ (.raw (.type "range")) := keep_ty _
 have v1 := P.f20
 have q1 : KeepOk prog w s₀ (.raw _) := (by obtain ⟨p, _, h⟩ := P.d20; exact keep_at h)
 have v2 := P.nsum
 have b2 := boot_sum
 have q2 : KeepOk prog w s₀ (.raw (.builtin "sum")) := keep_bi _
 clear hsc henv hs hb e hp hcell
 have hu := r.units
 repeat' walk_at "go"
 refine Op2.tail_raw hl (fun _ _ => ⟨_, rfl⟩) (Op2.slice_raw (by decide) hl hi hz fun few hfew => ?_)
 walk_at "few|hfew"
 repeat' walk_at "go"
 refine TE.listZ ?_
 repeat' walk_at "go"
 refine ⟨by simp [sizeLine_eq], ?_⟩
 repeat' walk_at "go"
 refine T1.assign_name hE s2 (hs := swaps_cell c2) (TE.comp_lst hE (by rfl) (by decide +kernel) (Reads.of (fr := [Str.ofString "base", Str.ofString "few"]) (by decide +kernel) (ReadsL.cons (.inl c1) (by walk_at "look") (ReadsL.cons (.inl c0) (by walk_at "look") ReadsL.nil))) ?_)
 repeat' walk_at "go"
 refine TC.range1 ?_
 refine Turns.go (f := wordsF few) hE (by rfl) (.inl (by rfl)) (OpIt.rng r.h (by rfl)) (by simp [sizeLine_eq]) (Reads.of (fr := [Str.ofString "base", Str.ofString "few"]) (by decide +kernel) (ReadsL.cons (.inl c1) (by walk_at "look") (ReadsL.cons (.inl c0) (by walk_at "look") ReadsL.nil))) (fun ce hce i x hx M mk mo => ?_) ?_
 ·walk_at "ce,i,x,M|hce,hx,mk,mo"
  obtain ⟨hi5, rfl⟩ := rng_get (n := 5) hx
  refine TIfs.nil (iteT ?_)
  have hE' := hce.E
  have x0 := hce.held (y := Str.ofString "k") (by rfl)
  have x1 := hce.held (y := Str.ofString "base") (by rfl)
  have x2 := hce.held (y := Str.ofString "few") (by rfl)
  have x3 := hce.glob (y := Str.ofString "_law_word") (by rfl)
  have x4 := hce.glob (y := Str.ofString "sum") (by rfl)
  have y1 := mo (Str.ofString "base") _ (by simp [ofString_eq]) (by rfl) (by walk_at "look")
  have y2 := mo (Str.ofString "few") _ (by simp [ofString_eq]) (by rfl) (by walk_at "look")
  have f19 := P.f19
  have nsum := P.nsum
  have bsum := boot_sum
  have kw : KeepOk prog w s₀ (.raw (.ref 190)) := by obtain ⟨p, _, h⟩ := P.d19; exact keep_at h
  repeat' walk_at "go"
  refine Op2.tail_lst (fun _ _ => ⟨_, rfl⟩) (Op2.item_lst (by exact o1) (by exact o140 hi5) (base_get hi5) ?_)
  repeat' walk_at "go"
  refine Op2.tail_lst (fun _ _ => ⟨_, rfl⟩) (Op2.slice_ints (by decide) (by rw [sizeLine_eq]; exact o141 hz hfew) fun _ => ?_)
  repeat' walk_at "go"
  refine TC.sum_lst r.h ?_
  repeat' walk_at "go"
  refine tc_word P r ?_
  exact ⟨rfl, rfl, rfl⟩
 have eW : (((List.range ((5 : Int) - 0).toNat).map fun (i : Nat) => V.int (0 + i)).filterMap (wordsF few)) = (wordsP few).map Mine.S := rfl
 rw [eW]
 have hWl : (wordsP few).length = 5 := rfl
 have hWk : ∀ a ∈ wordsP few, wordOk a := fun a ha => by
  obtain ⟨i, _, rfl⟩ := List.mem_map.mp ha
  exact word_ok _
 generalize wordsP few = W at *
 repeat' walk_at "go"
 refine TE.listZ ?_
 repeat' walk_at "go"
 refine ⟨by simp [sizeLine_eq], ?_⟩
 repeat' walk_at "go"
 refine Op2.tail_raw hl (fun _ _ => ⟨_, rfl⟩) (Op2.slice_raw (by decide) hl hi hz fun six hsix => ?_)
 walk_at "six|hsix"
 refine Op2.cat (by simp [intsV, sizeLine_eq]; exact o142 hz hsix) ?_
 rw [show [V.int 0, V.int 5, V.int 11, V.int 2, V.int 23, V.int 18] ++ intsV six = intsV ([0, 5, 11, 2, 23, 18] ++ six) from rfl]
 repeat' walk_at "go"
 refine tc_steps P r hWk hWl (by simp; exact o143 hz hsix) ?_
 repeat' walk_at "go"
 refine TC.sum_lst r.h ?_
 repeat' walk_at "go"
 have hmo : 0 ≤ few.sum.fmod 8 ∧ few.sum.fmod 8 < 8 := ⟨Int.fmod_nonneg_of_pos _ (by decide), Int.fmod_lt_of_pos _ (by decide)⟩
 generalize few.sum.fmod 8 = mo at *
 refine T1.assign_comp hE (by rfl) (by decide +kernel) (Reads.of (fr := [Str.ofString "words", Str.ofString "most"]) (by decide +kernel) (ReadsL.cons (.inl c2) (by walk_at "look") (ReadsL.cons (.inl c4) (by walk_at "look") ReadsL.nil))) l0 ?_ (swaps_local hE l0 (by rfl) (by decide +kernel))
 repeat' walk_at "go"
 refine Turns.go (f := nearF W mo) hE (by rfl) (.inl (by rfl)) (OpIt.lst r.h) (by simp [sizeLine_eq]; exact o144 hWl) (Reads.of (fr := [Str.ofString "words", Str.ofString "most"]) (by decide +kernel) (ReadsL.cons (.inl c2) (by walk_at "look") (ReadsL.cons (.inl c4) (by walk_at "look") ReadsL.nil))) (fun ce hce i x hx M mk mo' => ?_) ?_
 ·walk_at "ce,i,x,M|hce,hx,mk,mo'"
  obtain ⟨a, ha, rfl⟩ : ∃ a ∈ W, x = Mine.S a := by
   rw [List.getElem?_map] at hx
   cases e : W[i]? with
   | none => rw [e] at hx; cases hx
   | some a => rw [e] at hx; cases hx; exact ⟨a, List.mem_of_getElem? e, rfl⟩
  walk_at "a|ha,hx,mk"
  refine TIfs.nil (iteT ?_)
  have hE' := hce.E
  have x0 := hce.held (y := Str.ofString "word") (by rfl)
  have x1 := hce.held (y := Str.ofString "words") (by rfl)
  have x2 := hce.held (y := Str.ofString "most") (by rfl)
  have x3 := hce.glob (y := Str.ofString "min") (by rfl)
  have x4 := hce.glob (y := Str.ofString "_levenshtein_distance") (by rfl)
  have y1 := mo' (Str.ofString "words") _ (by simp [ofString_eq]) (by rfl) (by walk_at "look")
  have y2 := mo' (Str.ofString "most") _ (by simp [ofString_eq]) (by rfl) (by walk_at "look")
  have f6 := P.f6
  have nmin := P.nmin
  have bmin := boot_min
  have km : KeepOk prog w s₀ (.raw (.builtin "min")) := keep_bi _
  have kw : KeepOk prog w s₀ (.raw (.ref 35)) := by obtain ⟨p, _, h⟩ := P.d6; exact keep_at h
  repeat' walk_at "go"
  refine Op2.tail_lst (fun _ _ => ⟨_, rfl⟩) (Op2.item_lst (by exact o145) (by exact o146) (ws_get hWl (k := 4) (by exact o43)) ?_)
  repeat' walk_at "go"
  refine tc_lev P r (hWk a ha) (ws_ok hWl hWk (k := 4) (by exact o43)) ?_
  repeat' walk_at "go"
  refine TC.min2 r.h ?_
  exact ⟨rfl, rfl, rfl⟩
 have eN : (W.map Mine.S).filterMap (nearF W mo) = intsV (nearP W mo) := by
  rw [List.filterMap_map, intsV, nearP, List.map_map]
  exact List.filterMap_eq_map (f := V.int ∘ fun a => min (lev a (W.getD 4 []) mo) (mo + 1)) ▸ rfl
 rw [eN]
 have hnl : (nearP W mo).length = 5 := by simp [nearP, hWl]
 have hn0 : (intsV (nearP W mo))[(0 : Int).toNat]? = some (.int ((nearP W mo).getD 0 0)) := by
  have : 0 < (nearP W mo).length := by exact o147 hnl
  simp [intsV, List.getElem?_eq_getElem this, List.getD_eq_getElem?_getD]
 repeat' walk_at "go"
 refine TE.list ?_
 repeat' walk_at "go"
 refine Op2.tail_lst (fun _ _ => ⟨_, rfl⟩) (Op2.item_lst (by exact o13) (by exact o14) hn0 ?_)
 repeat' walk_at "go"
 refine ⟨by simp [sizeLine_eq], ?_⟩
 repeat' walk_at "go"
 refine ⟨by simp [sizeLine_eq], fun aH hH => ?_⟩
 walk_at "aH|hH"
 repeat' walk_at "go"
 refine TE.dict0 fun aT hT => ?_
 walk_at "aT|hT"
 repeat' walk_at "go"
 refine TE.list ?_
 repeat' walk_at "go"
 refine ⟨by simp [sizeLine_eq], fun aL hL => ?_⟩
 walk_at "aL|hL"
 obtain ⟨nTH, hT⟩ := put_none hT
 obtain ⟨nLT, hL⟩ := put_none hL
 obtain ⟨nLH, hL⟩ := put_none hL
 show TS prog w s₀ A env (topBody 22 9) _ _ _
 refine TS.has (l := [(Str.ofString "words", .lst (W.map Mine.S)), (Str.ofString "steps", stepsV (stepsP W ([0, 5, 11, 2, 23, 18] ++ six))), (Str.ofString "near", .lst (intsV (nearP W mo))), (Str.ofString "heap", .ref aH), (Str.ofString "told", .ref aT), (Str.ofString "heads", .ref aL)]) (by walk_at "has") ?_
 refine h W six mo aH aT aL _ hWl hWk hmo.1 hmo.2 (by exact o148 hz hsix) ?_ ?_ Hp.put_at (Ne.symm nLH)
 ·rw [Hp.put_ne nLH.symm, Hp.put_ne nTH.symm]; exact Hp.put_at
 ·rw [Hp.put_ne nLT.symm]; exact Hp.put_at
end
section
open PySem.Calls
variable {K : Frag}
theorem tc_push {n : Nat} (P : Prg s₀ mg mb) (r : Room A (n + 2)) {a : Addr} {xs : List T} {x : T} (ha : H a = some (.list (xs.map T3))) (hl : xs.length < 999) {Q : V → Hp → Prop} (h : Q .none (H.put a (.list ((hpush xs x).map T3)))) :
  TC prog w s₀ A (.raw (.ref 162)) [.ref a, T3 x] Q H := by
 obtain ⟨p, hp, hat⟩ := P.d14
 refine TCd.tc ?_
 have e := def_eq hp rfl
 have hpar := congrArg DefParts.params e
 have hs := congrArg DefParts.scope e
 dsimp only at hs hpar
 refine TCd.at (names := [Str.ofString "heap", Str.ofString "item"]) hat r.lt (by rw [hs]; rfl) rfl (fun n q kv dc pm an cd ct xs hx => ?_) (by rw [hs]; rfl) (fun n q kv dc pm an cd ct L => ?_)
 ·obtain ⟨x0, x1, rfl⟩ := Mine.len2 hx; unfold mkFd; rw [hpar]; rfl
 exact heappush_body p hp L (r.deeper _) P.G P.f16 P.d16 P.nlen boot_len ha hl h
theorem tc_pop {n : Nat} (P : Prg s₀ mg mb) (r : Room A (n + 3)) {a : Addr} {ys : List T} {x : T} (ha : H a = some (.list ((ys ++ [x]).map T3))) (hl : ys.length < 999) {Q : V → Hp → Prop} (h : Q (T3 (hpop ys x).1) (H.put a (.list ((hpop ys x).2.map T3)))) :
  TC prog w s₀ A (.raw (.ref 169)) [.ref a] Q H := by
 obtain ⟨p, hp, hat⟩ := P.d15
 refine TCd.tc ?_
 have e := def_eq hp rfl
 have hpar := congrArg DefParts.params e
 have hs := congrArg DefParts.scope e
 dsimp only at hs hpar
 refine TCd.at (names := [Str.ofString "heap"]) hat r.lt (by rw [hs]; rfl) rfl (fun n q kv dc pm an cd ct xs hx => ?_) (by rw [hs]; rfl) (fun n q kv dc pm an cd ct L => ?_)
 ·obtain ⟨x0, rfl⟩ := Mine.len1 hx; unfold mkFd; rw [hpar]; rfl
 exact heappop_body p hp L (r.deeper _) P.G P.f17 P.d17 P.f16 P.d16 P.nlen boot_len ha hl h
theorem kvI_hasT {t : Tab} {k : Int} (h : ∃ g, (k, g) ∈ t) : dhas (kvI t) k = true := by
 obtain ⟨g, hg⟩ := h
 rw [kvM_has]
 unfold ghas gget
 rw [Option.isSome_map]
 exact List.find?_isSome.mpr ⟨_, hg, by simp⟩
theorem kvI_hasF {t : Tab} {k : Int} (h : ¬ ∃ g, (k, g) ∈ t) : dhas (kvI t) k = false := by
 rw [kvM_has]
 unfold ghas gget
 rw [Option.isSome_map, List.find?_eq_none.mpr fun x hx q => h ⟨x.2, (of_decide_eq_true q : x.1 = k) ▸ hx⟩]
 rfl
theorem kvI_new {t : Tab} {k : Int} (h : ¬ ∃ g, (k, g) ∈ t) (c : Int) : dput (kvI t) k (.int c) = kvI (t ++ [(k, c)]) := by
 unfold dput
 rw [kvI_hasF h, if_neg (by decide)]
 simp [kvM]
theorem Dist.rg {T : List Tab} (g : TOk T) {v d : Int} (h : Dist T v d) : 0 ≤ v ∧ v < 5 := by
 obtain ⟨p, hp, rfl, _⟩ := h.at_
 exact hp.endRg g
theorem kvI_keys {t : Tab} {i : Nat} {x : V} (h : ((kvI t).map fun kv => V.int kv.1)[i]? = some x) : ∃ e, t[i]? = some e ∧ x = .int e.1 := by
 walk_at "t,i,x|h"
 simp only [kvM, List.map_map, List.getElem?_map, Function.comp_def] at h
 cases e : t[i]? with
 | none => rw [e] at h; cases h
 | some e' => rw [e] at h; cases h; exact ⟨e', rfl, rfl⟩
theorem ints_at {l : List Int} {k : Int} (h : 0 ≤ k ∧ k < l.length) : (intsV l)[k.toNat]? = some (.int (l.getD k.toNat 0)) := by
 have : k.toNat < l.length := by exact o149 h
 rw [intsV, List.getElem?_map, List.getElem?_eq_getElem this, List.getD_eq_getElem?_getD, List.getElem?_eq_getElem this]; rfl
theorem steps_at {T : List Tab} (h : TOk T) {u : Int} (hu : 0 ≤ u ∧ u < 5) : (T.map fun t => V.dct (kvI t))[u.toNat]? = some (.dct (kvI (tabAt T u))) := by rw [List.getElem?_map, tabAt_get h hu]; rfl
theorem law2 (p : DefParts) (hp : topDef 22 = some p) {fa : Addr} {n q : Str} {dv kv dc pm : Value} {an : Option Addr} {cd ct : Value} (L : Addr) (P : Prg s₀ mg mb) {rn : Nat} (r : Room A (rn + 4)) {Q : V → Prop}
  {W : List (List Nat)} {T : List Tab} {nr : List Int} (g : Gm W T nr) (hnl : nr.length = 5) {aH aT aL : Addr} (hH : H aH = some (.list ([(nAt nr 0, 0, 0)].map T3))) (hT : H aT = some (.dict (kvI []))) (hL : H aL = some (.list (intsV []))) (hne : aH ≠ aL)
  (h : ∀ (t : Tab) (hs : List Int) (H' : Hp), (∀ v d, (v, d) ∈ t ↔ Dist T v d) → (t.map (·.1)).Nodup → hs.Pairwise (· ≤ ·) → hs.length ≤ 5 → H' aT = some (.dict (kvI t)) → H' aL = some (.list (intsV hs)) →
   TS prog w s₀ A (callEnvC (mkFd p n q dv kv dc pm an cd ct) L fa) (topBody 22 10) (fun f _ _ => Q (retV f)) (Loc.ofArgs [(Str.ofString "words", .lst (W.map Mine.S)), (Str.ofString "steps", stepsV T), (Str.ofString "told", .ref aT), (Str.ofString "heads", .ref aL)]) H') :
  TS prog w s₀ A (callEnvC (mkFd p n q dv kv dc pm an cd ct) L fa) (topBody 22 9) (fun f _ _ => Q (retV f)) (Loc.ofArgs [(Str.ofString "words", .lst (W.map Mine.S)), (Str.ofString "steps", stepsV T), (Str.ofString "near", .lst (intsV nr)), (Str.ofString "heap", .ref aH), (Str.ofString "told", .ref aT), (Str.ofString "heads", .ref aL)]) H := by
 walk_at "prog,w,s₀,H,A,mg,mb,p,fa,n,q,dv,kv,dc,pm,an,cd,ct,L,rn,Q,W,T,nr,aH,aT,aL|hp,P,r,g,hnl,hH,hT,hL,hne,h"
 try simp only [Loc.ofArgs, List.foldl]
 have e := def_eq hp rfl
 have hb := congrArg DefParts.body e
 have hs := congrArg DefParts.scope e
 dsimp only at hb hs
 have hb2 : topBody 22 9 = List.drop 9 p.body := by unfold topBody; rw [hp]
 rw [hb2, hb]
 dsimp only [List.drop]
 have hcell : ∀ x, p.scope.names.lookup x = some .cell → stored? (callEnvC (mkFd p n q dv kv dc pm an cd ct) L fa) x = true := fun x hx => stored_cell hx
 rw [hs] at hcell
 generalize henv : callEnvC (mkFd p n q dv kv dc pm an cd ct) L fa = env at hcell h ⊢
 obtain ⟨hE, hsc⟩ := env_of henv hs rfl rfl rfl rfl
 have k0 := held_of "words" hsc rfl
 have k1 := held_of "steps" hsc rfl
 have k2 := held_of "near" hsc rfl
 have k3 := held_of "heap" hsc rfl
 have k4 := held_of "told" hsc rfl
 have k5 := held_of "heads" hsc rfl
 have k6 := held_of "head" hsc rfl
 have k7 := held_of "far" hsc rfl
 have k8 := held_of "u" hsc rfl
 have k9 := held_of "v" hsc rfl
 have s0 := stored_of "head" hsc rfl
 have s1 := stored_of "far" hsc rfl
 have s2 := stored_of "u" hsc rfl
 have s3 : stored? env (Str.ofString "v") = true := hcell _ (by rfl)
 have g0 := kind_g "heappop" hsc rfl
 have g1 := kind_g "heappush" hsc rfl
 have c0 := kind_c "few" hsc rfl
 have c1 := kind_c "base" hsc rfl
 have c2 := kind_c "words" hsc rfl
 have c3 := kind_c "steps" hsc rfl
 have c4 := kind_c "most" hsc rfl
 have c5 := kind_c "told" hsc rfl
 have c6 := kind_c "v" hsc rfl
 have c7 := kind_c "ends" hsc rfl
 have c8 := kind_c "counts" hsc rfl
 have hG := P.G
 have v0 := P.f15
 have q0 : KeepOk prog w s₀ (.raw _) := (by obtain ⟨p, _, h⟩ := P.d15; exact keep_at h)
 have v1 := P.f14
 have q1 : KeepOk prog w s₀ (.raw _) := (by obtain ⟨p, _, h⟩ := P.d14; exact keep_at h)
 clear hsc henv hs hb e hp hb2 hcell
 have hu := r.units
 have ka : KeepOk prog w s₀ (.raw (.builtin "list.append")) := keep_bi _
 refine TS.cons ?_
 refine T1.mono (Q := fun f m' H' => f = .next ∧ ∃ t hs, AS T nr [] t hs ∧ hs.length = t.length ∧ t.length ≤ 5 ∧ H' aT = some (.dict (kvI t)) ∧ H' aL = some (.list (intsV hs)) ∧
  Has m' [(Str.ofString "words", .lst (W.map Mine.S)), (Str.ofString "steps", stepsV T), (Str.ofString "told", .ref aT), (Str.ofString "heads", .ref aL)]) ?_ ?_
 rotate_left
 ·rintro _ m' H' ⟨rfl, t, hs, ha, hl1, hl2, h1, h2, hm⟩
  show TS prog w s₀ A env (topBody 22 10) _ m' H'
  refine TS.has hm ?_
  exact h t hs H' (ha.done g.ok) ha.nd ha.so (by exact o150 hl1 hl2) h1 h2
 refine T1.whiles (I := fun N m' H' => ∃ hp t hs, N = hp.length + 6 * (5 - t.length) ∧ N ≤ 31 ∧ Heapy hp ∧ AS T nr hp t hs ∧ hs.length = t.length ∧ t.length ≤ 5 ∧ H' aH = some (.list (hp.map T3)) ∧ H' aT = some (.dict (kvI t)) ∧ H' aL = some (.list (intsV hs)) ∧
  Has m' [(Str.ofString "words", .lst (W.map Mine.S)), (Str.ofString "steps", stepsV T), (Str.ofString "near", .lst (intsV nr)), (Str.ofString "heap", .ref aH), (Str.ofString "told", .ref aT), (Str.ofString "heads", .ref aL)]) ?_ 31
  ⟨[(nAt nr 0, 0, 0)], [], [], rfl, by exact o151, fun i hi hl => absurd hl (by simp only [List.length_singleton]; exact o152 hi), AS.start, rfl, by simp, hH, hT, hL, by walk_at "has"⟩
 clear hH hT hL
 rintro N m' H' ⟨hp, t, hs, rfl, hN, hheap, ha, hl1, hl2, hH, hT, hL, hm⟩
 walk_at "m',H',hp,t,hs|hN,hheap,ha,hl1,hl2,hH,hT,hL,hm"
 refine TB.has hm ?_
 simp only [Loc.ofArgs, List.foldl]
 repeat' walk_at "go"
 refine OpB.list hH (by simp; exact o153 hN) ?_
 rcases List.eq_nil_or_concat hp with rfl | ⟨ys, x, rfl⟩
 ·rw [if_neg (by simp)]
  repeat' walk_at "go"
  exact ⟨rfl, t, hs, ha, hl1, hl2, hT, hL, by walk_at "has"⟩
 walk_at "ys,x|hN,hheap,ha,hH"
 rw [List.concat_eq_append] at *
 rw [if_pos (by simp)]
 have hyl : ys.length < 999 := by simp at hN; exact o154 hN
 obtain ⟨p1, p2, p3, p4, p5, p6⟩ := hpop_heap hheap
 have nHT : aT ≠ aH := fun q => by rw [q, hH] at hT; cases hT
 have nTL : aT ≠ aL := fun q => by rw [q, hL] at hT; cases hT
 show TS prog w s₀ A env _ _ _ _
 refine TS.cons (T1.assign_tuple ?_)
 repeat' walk_at "go"
 refine tc_pop P r hH hyl ?_
 have hlen : (ys ++ [x]).length = ys.length + 1 := by simp
 generalize (hpop ys x).1 = e at *
 generalize (hpop ys x).2 = h' at *
 generalize ys ++ [x] = h0 at *
 have hle : ∀ y ∈ h0, e.1 ≤ y.1 := fun y hy => (p3 y hy).first
 have hrg := (ha.hp e p4).1
 have hT1 : (H'.put aH (.list (h'.map T3))) aT = some (.dict (kvI t)) := by rw [Hp.put_ne nHT]; exact hT
 have hL1 : (H'.put aH (.list (h'.map T3))) aL = some (.list (intsV hs)) := by rw [Hp.put_ne hne.symm]; exact hL
 have hH1 : (H'.put aH (.list (h'.map T3))) aH = some (.list (h'.map T3)) := Hp.put_at
 clear hT hL hH p3
 generalize H'.put aH (.list (h'.map T3)) = H1 at *
 refine TA.tup r.h rfl ?_
 refine TA.name hE s0 (TA.name hE s1 (TA.name hE s2 ?_))
 show TS prog w s₀ A env _ _ _ _
 repeat' walk_at "go"
 refine Op2.notin_dict hT1 ?_
 repeat' walk_at "go"
 by_cases hu : ∃ gg, (e.2.2, gg) ∈ t
 ·rw [kvI_hasT hu, if_neg (by decide)]
  repeat' walk_at "go"
  refine ⟨_, ?_, h', t, hs, rfl, by exact o155 p2 hN hlen, p1, ha.skip p6 p5 hu, hl1, hl2, hH1, hT1, hL1, by walk_at "has"⟩
  exact o156 p2 hlen
 rw [kvI_hasF hu, if_pos (by decide)]
 repeat' walk_at "go"
 refine OpU.setItem_dict hT1 (by simp [kvM, sizeLine_eq]; exact o6 hl2) ?_
 rw [kvI_new hu]
 repeat' walk_at "go"
 refine OpM.list (by rw [Hp.put_ne nTL.symm]; exact hL1) slot_list_append (by rfl) ?_
 repeat' walk_at "go"
 refine TC.append (by rw [Hp.put_ne nTL.symm]; exact hL1) (by simp [intsV, sizeLine_eq]; exact o157 hl1 hl2) ?_
 rw [show intsV hs ++ [V.int e.1] = intsV (hs ++ [e.1]) by simp [intsV]]
 have hT2 : ((H1.put aT (.dict (kvI (t ++ [(e.2.2, e.2.1)])))).put aL (.list (intsV (hs ++ [e.1])))) aT = some (.dict (kvI (t ++ [(e.2.2, e.2.1)]))) := by rw [Hp.put_ne nTL]; exact Hp.put_at
 have hL2 : ((H1.put aT (.dict (kvI (t ++ [(e.2.2, e.2.1)])))).put aL (.list (intsV (hs ++ [e.1])))) aL = some (.list (intsV (hs ++ [e.1]))) := Hp.put_at
 have hH2 : ((H1.put aT (.dict (kvI (t ++ [(e.2.2, e.2.1)])))).put aL (.list (intsV (hs ++ [e.1])))) aH = some (.list (h'.map T3)) := by rw [Hp.put_ne hne, Hp.put_ne nHT.symm]; exact hH1
 clear hT1 hL1 hH1
 generalize (H1.put aT (.dict (kvI (t ++ [(e.2.2, e.2.1)])))).put aL (.list (intsV (hs ++ [e.1]))) = H2 at *
 have htm := tabAt_mem g.ok hrg
 have ht5 : (tabAt T e.2.2).length ≤ 5 := by
  have := five (g.ok.nd _ htm) (fun v hv => by obtain ⟨y, hy, rfl⟩ := List.mem_map.mp hv; exact g.ok.rg _ htm y hy)
  simpa using this
 repeat' walk_at "go"
 refine T1.fors ?_
 repeat' walk_at "go"
 refine Op2.tail_lst (fun _ _ => ⟨_, rfl⟩) (Op2.item_lst hrg.1 (by exact o0 hrg) (steps_at g.ok hrg) ?_)
 refine ⟨_, OpIt.dct r.h, fun j m' H' => ∃ hk : List Mine.T, hk.length = h'.length + j ∧ Heapy hk ∧ (∀ y, y ∈ hk ↔ y ∈ h' ∨ ∃ z ∈ (tabAt T e.2.2).take j, y = mk3 nr z.1 (e.2.1 + z.2)) ∧
  H' aH = some (.list (hk.map T3)) ∧ H' aT = some (.dict (kvI (t ++ [(e.2.2, e.2.1)]))) ∧ H' aL = some (.list (intsV (hs ++ [e.1]))) ∧
  Has m' [(Str.ofString "words", .lst (W.map Mine.S)), (Str.ofString "steps", stepsV T), (Str.ofString "near", .lst (intsV nr)), (Str.ofString "heap", .ref aH), (Str.ofString "told", .ref aT), (Str.ofString "heads", .ref aL), (Str.ofString "far", .int e.2.1), (Str.ofString "u", .int e.2.2)],
  ⟨h', rfl, p1, by simp, hH2, hT2, hL2, by walk_at "has"⟩, ?_, ?_⟩
 ·rintro j y m' H' hy ⟨hk, q1, q2, q3, q4, q5, q6, hm⟩
  walk_at "j,y,m',H',hk|hy,q1,q2,q3,q4,q5,q6,hm"
  obtain ⟨z, hz, rfl⟩ := kvI_keys hy
  walk_at "z|hz,hy"
  have hzm := List.mem_of_getElem? hz
  have hzr := g.ok.rg _ htm z hzm
  have hj := (List.getElem?_eq_some_iff.mp hz).1
  refine TA.has hm ?_
  simp only [Loc.ofArgs, List.foldl]
  refine TA.name hE s3 ?_
  repeat' walk_at "go"
  refine Op2.tail_lst (fun _ _ => ⟨_, rfl⟩) (Op2.item_lst hrg.1 (by exact o0 hrg) (steps_at g.ok hrg) ?_)
  repeat' walk_at "go"
  refine Op2.tail_dct (fun _ _ => ⟨_, rfl⟩) (Op2.item_dct (v := .int z.2) (by rw [kvM_get, gget_mem (g.ok.nd _ htm) hzm]; rfl) ?_)
  repeat' walk_at "go"
  refine Op2.tail_lst (fun _ _ => ⟨_, rfl⟩) (Op2.item_lst hzr.1 (by exact o0 hzr) (ints_at (by exact o158 hnl hzr)) ?_)
  repeat' walk_at "go"
  refine Op2.tail_lst (fun _ _ => ⟨_, rfl⟩) (Op2.item_lst hrg.1 (by exact o0 hrg) (steps_at g.ok hrg) ?_)
  repeat' walk_at "go"
  refine Op2.tail_dct (fun _ _ => ⟨_, rfl⟩) (Op2.item_dct (v := .int z.2) (by rw [kvM_get, gget_mem (g.ok.nd _ htm) hzm]; rfl) ?_)
  repeat' walk_at "go"
  refine ⟨by simp [sizeLine_eq], ?_⟩
  repeat' walk_at "go"
  refine tc_push P r (x := mk3 nr z.1 (e.2.1 + z.2)) q4 (by exact o159 p2 hN hlen ht5 q1 hj) ?_
  repeat' walk_at "go"
  refine ⟨hpush hk (mk3 nr z.1 (e.2.1 + z.2)), by rw [hpush_len]; exact o39 q1, hpush_heap q2 _, fun y => ?_, Hp.put_at, by rw [Hp.put_ne nHT]; exact q5, by rw [Hp.put_ne hne.symm]; exact q6, by walk_at "has"⟩
  walk_at "y|"
  rw [hpush_mem, q3 y, List.take_add_one, hz]
  constructor
  ·rintro (q | q | ⟨z', hz', q⟩)
   ·exact .inr ⟨z, by simp, q⟩
   ·exact .inl q
   ·exact .inr ⟨z', List.mem_append.mpr (.inl hz'), q⟩
  ·rintro (q | ⟨z', hz', q⟩)
   ·exact .inr (.inl q)
   ·rcases List.mem_append.mp hz' with hz' | hz'
    ·exact .inr (.inr ⟨z', hz', q⟩)
    ·cases List.mem_singleton.mp hz'
     exact .inl q
 ·rintro m' H' ⟨hk, q1, q2, q3, q4, q5, q6, hm⟩
  walk_at "m',H',hk|q1,q2,q3,q4,q5,q6,hm"
  have elen : ((kvI (tabAt T e.2.2)).map fun kv => V.int kv.1).length = (tabAt T e.2.2).length := by simp [kvM]
  rw [elen] at q1 q3
  rw [List.take_length] at q3
  have ha2 := ha.settle g p4 hle p6 p5 hu (h'' := hk) (fun y => by
   rw [q3 y]
   refine or_congr_right ⟨?_, ?_⟩
   ·rintro ⟨z, hz, q⟩; exact ⟨z.1, z.2, hz, q⟩
   ·rintro ⟨v, c, hz, q⟩; exact ⟨(v, c), hz, q⟩)
  have ht6 : (t ++ [(e.2.2, e.2.1)]).length ≤ 5 := by
   have := five ha2.nd (fun v hv => by obtain ⟨y, hy, rfl⟩ := List.mem_map.mp hv; exact (ha2.set y.1 y.2 hy).rg g.ok)
   simpa using this
  have hlt : (t ++ [(e.2.2, e.2.1)]).length = t.length + 1 := by simp
  repeat' walk_at "go"
  refine ⟨_, ?_, hk, t ++ [(e.2.2, e.2.1)], hs ++ [e.1], rfl, ?_, q2, ha2, by simp [hl1], ht6, q4, q5, q6, ?_⟩
  ·exact o160 p2 hlen ht5 q1 ht6 hlt
  ·exact o161 p2 hN hlen ht5 q1 ht6 hlt
  ·intro pr hpr
   exact hm pr (by simp only [List.mem_cons, List.not_mem_nil, or_false] at hpr ⊢; rcases hpr with h | h | h | h | h | h <;> simp [h])
end
section
open PySem.Calls
variable {K : Frag}
theorem TC.sorted_lst {l : List Int} {Q : V → Hp → Prop} (hl : l.length < 64) (h : ∀ l', l'.Perm l → l'.Pairwise (· ≤ ·) → Q (.lst (intsV l')) H) : TC prog w s₀ A (.raw (.builtin "sorted")) [.lst (intsV l)] Q H := .mk fun B Z s f ys R hf hy => by
 obtain ⟨_, rfl⟩ := hf.inv
 obtain ⟨x, rfl, hx⟩ := hy.inv1
 obtain ⟨a, o, items, rfl, hz, so, hi⟩ := hx.inv
 have e : l.length = items.length := by simpa [intsV] using hi.length
 refine sorted_ints (isList_of (R.kz _ _ hz) so) (intsAre_of hi) (by exact o162 hl e) fun out l' h1 h2 h3 => ?_
 obtain ⟨ep, he⟩ := sortedAll_at s.heap items out
 have hn : s.heap.get? (s.heap.objs.size + 1) = none := by
  cases q : s.heap.get? (s.heap.objs.size + 1) with
  | none => rfl
  | some o => exact absurd (Heap.lt_size q) (Nat.not_lt.mpr (Nat.le_succ _))
 exact .newZ R (t := s.toks) hn (fun _ _ e => sortedAll_old e) he (.lst _ _ _ out.toList (Mem.put_self ..) ⟨ep, rfl⟩ (rvs_of_ints h1)) (h l' h2 h3)
theorem way_last {p : Way} (h : WayOk p) : (intsV p.1)[((-1 : Int) + (intsV p.1).length).toNat]? = some (.int (endOf p)) ∧ (1 : Int) ≤ (intsV p.1).length := by
 have e1 : (intsV p.1).length = p.1.length := by simp [intsV]
 have e2 := List.length_pos_iff.mpr h.ne
 rw [e1, show ((-1 : Int) + (p.1.length : Int)).toNat = p.1.length - 1 from by exact o22, intsV, List.getElem?_map, ← List.getLast?_eq_getElem?, List.getLast?_eq_some_getLast h.ne]
 exact ⟨by simp [endOf, List.getLastD_eq_getLast?, List.getLast?_eq_some_getLast h.ne], by exact o37 e2⟩
theorem tab_small {t : Tab} (nd : (t.map (·.1)).Nodup) (h : ∀ v d, (v, d) ∈ t → 0 ≤ v ∧ v < 5) : t.length ≤ 5 := by
 have := five nd (fun v hv => by obtain ⟨y, hy, rfl⟩ := List.mem_map.mp hv; exact h y.1 y.2 hy)
 simpa using this
theorem law3 (p : DefParts) (hp : topDef 22 = some p) {fa : Addr} {n q : Str} {dv kv dc pm : Value} {an : Option Addr} {cd ct : Value} (L : Addr) (P : Prg s₀ mg mb) {rn : Nat} (r : Room A (rn + 4)) {Q : V → Prop}
  {W : List (List Nat)} {T : List Tab} {nr : List Int} (g : Gm W T nr) {t : Tab} {hs : List Int} (ht : ∀ v d, (v, d) ∈ t ↔ Dist T v d) (htn : (t.map (·.1)).Nodup) (hso : hs.Pairwise (· ≤ ·)) (hsl : hs.length ≤ 5) {aT aL : Addr} (hT : H aT = some (.dict (kvI t))) (hL : H aL = some (.list (intsV hs)))
  (h : ∀ (F : List Way) (due many : Tab) (aM : Addr) (H' : Hp), (∀ q, q ∈ F ↔ IsWay T q) → F = ([0], 0) :: F.flatMap (ext T) → DM F due many → (∀ v d, (v, d) ∈ due ↔ (v, d) ∈ t) → H' aM = some (.dict (kvI many)) →
   TS prog w s₀ A (callEnvC (mkFd p n q dv kv dc pm an cd ct) L fa) (topBody 22 14) (fun f _ _ => Q (retV f)) (Loc.ofArgs [(Str.ofString "words", .lst (W.map Mine.S)), (Str.ofString "steps", stepsV T), (Str.ofString "told", .dct (kvI t)), (Str.ofString "many", .ref aM)]) H') :
  TS prog w s₀ A (callEnvC (mkFd p n q dv kv dc pm an cd ct) L fa) (topBody 22 10) (fun f _ _ => Q (retV f)) (Loc.ofArgs [(Str.ofString "words", .lst (W.map Mine.S)), (Str.ofString "steps", stepsV T), (Str.ofString "told", .ref aT), (Str.ofString "heads", .ref aL)]) H := by
 walk_at "prog,w,s₀,H,A,mg,mb,p,fa,n,q,dv,kv,dc,pm,an,cd,ct,L,rn,Q,W,T,nr,t,hs,aT,aL|hp,P,r,g,ht,htn,hso,hsl,hT,hL,h"
 try simp only [Loc.ofArgs, List.foldl]
 have e := def_eq hp rfl
 have hb := congrArg DefParts.body e
 have hs := congrArg DefParts.scope e
 dsimp only at hb hs
 have hb2 : topBody 22 10 = List.drop 10 p.body := by unfold topBody; rw [hp]
 rw [hb2, hb]
 dsimp only [List.drop]
 have hcell : ∀ x, p.scope.names.lookup x = some .cell → stored? (callEnvC (mkFd p n q dv kv dc pm an cd ct) L fa) x = true := fun x hx => stored_cell hx
 rw [hs] at hcell
 generalize henv : callEnvC (mkFd p n q dv kv dc pm an cd ct) L fa = env at hcell h ⊢
 obtain ⟨hE, hsc⟩ := env_of henv hs rfl rfl rfl rfl
 have k0 := held_of "words" hsc rfl
 have k1 := held_of "steps" hsc rfl
 have k2 := held_of "told" hsc rfl
 have k3 := held_of "heads" hsc rfl
 have k4 := held_of "due" hsc rfl
 have k5 := held_of "many" hsc rfl
 have k6 := held_of "way" hsc rfl
 have k7 := held_of "far" hsc rfl
 have s0 := stored_of "due" hsc rfl
 have s1 := stored_of "many" hsc rfl
 have s2 := stored_of "way" hsc rfl
 have s3 := stored_of "far" hsc rfl
 have g0 := kind_g "_law_ways" hsc rfl
 have g1 := kind_g "sorted" hsc rfl
 have c0 := kind_c "few" hsc rfl
 have c1 := kind_c "base" hsc rfl
 have c2 := kind_c "words" hsc rfl
 have c3 := kind_c "steps" hsc rfl
 have c4 := kind_c "most" hsc rfl
 have c5 := kind_c "told" hsc rfl
 have c6 := kind_c "v" hsc rfl
 have c7 := kind_c "ends" hsc rfl
 have c8 := kind_c "counts" hsc rfl
 have hG := P.G
 have v0 := P.f21
 have q0 : KeepOk prog w s₀ (.raw _) := (by obtain ⟨p, _, h⟩ := P.d21; exact keep_at h)
 have v1 := P.nsorted
 have b1 := boot_sorted
 have q1 : KeepOk prog w s₀ (.raw (.builtin "sorted")) := keep_bi _
 clear hsc henv hs hb e hp hb2 hcell
 have hu := r.units
 have hu' : A.units + 2 < cLine := by have := r.u; unfold cLine; exact o44 this
 repeat' walk_at "go"
 refine TE.dict0 fun aD hD => ?_
 walk_at "aD|hD"
 repeat' walk_at "go"
 refine TE.dict0 fun aM hM => ?_
 walk_at "aM|hM"
 obtain ⟨nMD, hM⟩ := put_none hM
 have hD1 : ((H.put aD (.dict [])).put aM (.dict [])) aD = some (.dict (kvI [])) := by rw [Hp.put_ne nMD.symm]; exact Hp.put_at
 have hM1 : ((H.put aD (.dict [])).put aM (.dict [])) aM = some (.dict (kvI [])) := Hp.put_at
 have nn : ∀ a o, H a = some o → a ≠ aD ∧ a ≠ aM := fun a o e => ⟨fun q => (by rw [q, hD] at e; cases e), fun q => (by rw [q, hM] at e; cases e)⟩
 have hT1 : ((H.put aD (.dict [])).put aM (.dict [])) aT = some (.dict (kvI t)) := by rw [Hp.put_ne (nn _ _ hT).2, Hp.put_ne (nn _ _ hT).1]; exact hT
 have hL1 : ((H.put aD (.dict [])).put aM (.dict [])) aL = some (.list (intsV hs)) := by rw [Hp.put_ne (nn _ _ hL).2, Hp.put_ne (nn _ _ hL).1]; exact hL
 have nTD := (nn _ _ hT).1
 have nTM := (nn _ _ hT).2
 have nLD := (nn _ _ hL).1
 have nLM := (nn _ _ hL).2
 clear nn hT hL hD hM
 generalize (H.put aD (.dict [])).put aM (.dict []) = H1 at *
 repeat' walk_at "go"
 refine T1.fors ?_
 repeat' walk_at "go"
 refine tc_ways P r g.ok fun F hF hok hlen => ?_
 walk_at "F|hF,hok,hlen"
 have hall := ways_all hF hok
 refine ⟨_, OpIt.lst2 r.h (fun v hv => by obtain ⟨p, _, rfl⟩ := List.mem_map.mp hv; exact ⟨_, rfl⟩), fun j m' H' => ∃ due many, DM (F.take j) due many ∧ H' aD = some (.dict (kvI due)) ∧ H' aM = some (.dict (kvI many)) ∧ H' aT = some (.dict (kvI t)) ∧ H' aL = some (.list (intsV hs)) ∧
  Has m' [(Str.ofString "words", .lst (W.map Mine.S)), (Str.ofString "steps", stepsV T), (Str.ofString "told", .ref aT), (Str.ofString "heads", .ref aL), (Str.ofString "due", .ref aD), (Str.ofString "many", .ref aM)], ⟨[], [], by simpa using DM.nil, hD1, hM1, hT1, hL1, by walk_at "has"⟩, ?_, ?_⟩
 ·clear hD1 hM1 hT1 hL1
  rintro j x m' H' hx ⟨due, many, hdm, hD, hM, hT, hL, hm⟩
  walk_at "j,x,m',H',due,many|hx,hdm,hD,hM,hT,hL,hm"
  obtain ⟨p, hpj, rfl⟩ : ∃ p, F[j]? = some p ∧ x = wayV p := by
   rw [List.getElem?_map] at hx
   cases e : F[j]? with
   | none => rw [e] at hx; cases hx
   | some p => rw [e] at hx; cases hx; exact ⟨p, rfl, rfl⟩
  walk_at "p|hpj,hx"
  have hpF := List.mem_of_getElem? hpj
  have hwo := hok p hpF
  obtain ⟨wl1, wl2⟩ := way_last hwo
  have htake : F.take (j + 1) = F.take j ++ [p] := by rw [List.take_add_one, hpj]; rfl
  have hd5 : due.length ≤ 5 := tab_small hdm.nd fun v d hd => by
   obtain ⟨⟨q, hq, e, _⟩, _⟩ := hdm.at_ v d hd
   rw [← e]; exact (hok q (List.mem_of_mem_take hq)).endRg
  have hm5 : many.length ≤ 5 := tab_small hdm.nm fun v d hd => by
   obtain ⟨d', hd, _⟩ := (hdm.many v d).mp hd
   obtain ⟨⟨q, hq, e, _⟩, _⟩ := hdm.at_ v d' hd
   rw [← e]; exact (hok q (List.mem_of_mem_take hq)).endRg
  simp only [htake]
  refine TA.has hm ?_
  simp only [Loc.ofArgs, List.foldl]
  refine TA.tup r.h rfl (TA.name hE s2 (TA.name hE s3 ?_))
  show TS prog w s₀ A env _ _ _ _
  repeat' walk_at "go"
  refine Op2.tail_lst (fun _ _ => ⟨_, rfl⟩) (Op2.item_lst_neg (by exact o3) (by exact o8 wl2) (by exact o4) wl1 ?_)
  repeat' walk_at "go"
  refine Op2.notin_dict hD ?_
  repeat' walk_at "go"
  by_cases hd : ∃ d, (endOf p, d) ∈ due
  ·rw [kvI_hasT hd, if_neg (by decide)]
   obtain ⟨d, hd⟩ := hd
   walk_at "d|hd"
   have hg : dget (kvI due) (endOf p) = some (.int d) := by rw [kvM_get, gget_mem hdm.nd hd]; rfl
   repeat' walk_at "go"
   refine Op2.tail_lst (fun _ _ => ⟨_, rfl⟩) (Op2.item_lst_neg (by exact o3) (by exact o8 wl2) (by exact o4) wl1 ?_)
   refine Op2.tail_dict (fun _ _ => ⟨_, rfl⟩) hD (Op2.item_dict hD hg ?_)
   repeat' walk_at "go"
   by_cases hlt : p.2 < d
   ·rw [if_pos (by simpa using hlt)]
    repeat' walk_at "go"
    refine Op2.tail_lst (fun _ _ => ⟨_, rfl⟩) (Op2.item_lst_neg (by exact o3) (by exact o8 wl2) (by exact o4) wl1 ?_)
    refine OpU.setItem_dict hD (by simp [kvM, sizeLine_eq]; exact o6 hd5) ?_
    rw [kvM_put]
    repeat' walk_at "go"
    refine Op2.tail_lst (fun _ _ => ⟨_, rfl⟩) (Op2.item_lst_neg (by exact o3) (by exact o8 wl2) (by exact o4) wl1 ?_)
    refine OpU.setItem_dict (by rw [Hp.put_ne nMD]; exact hM) (by simp [kvM, sizeLine_eq]; exact o6 hm5) ?_
    rw [kvM_put]
    repeat' walk_at "go"
    refine ⟨_, _, hdm.better (fun d' hd' => by rw [tab_uniq hdm.nd hd' hd]; exact hlt), by rw [Hp.put_ne nMD.symm]; exact Hp.put_at, Hp.put_at, by rw [Hp.put_ne nTM, Hp.put_ne nTD]; exact hT, by rw [Hp.put_ne nLM, Hp.put_ne nLD]; exact hL, by walk_at "has"⟩
   ·rw [if_neg (by simpa using hlt)]
    repeat' walk_at "go"
    refine Op2.tail_lst (fun _ _ => ⟨_, rfl⟩) (Op2.item_lst_neg (by exact o3) (by exact o8 wl2) (by exact o4) wl1 ?_)
    refine Op2.tail_dict (fun _ _ => ⟨_, rfl⟩) hD (Op2.item_dict hD hg ?_)
    repeat' walk_at "go"
    by_cases heq : p.2 = d
    ·rw [if_pos (by simpa using heq)]
     subst heq
     have hn := (hdm.many (endOf p) _).mpr ⟨_, hd, rfl⟩
     have hgm : dget (kvI many) (endOf p) = some (.int (cntW (F.take j) (endOf p) p.2 : Int)) := by rw [kvM_get, gget_mem hdm.nm hn]; rfl
     refine TS.cons (T1.aug_sub ?_)
     repeat' walk_at "go"
     refine Op2.tail_lst (fun _ _ => ⟨_, rfl⟩) (Op2.item_lst_neg (by exact o3) (by exact o8 wl2) (by exact o4) wl1 ?_)
     refine Op2.item_dict hM hgm ?_
     repeat' walk_at "go"
     refine OpU.setItem_dict hM (by simp [kvM, sizeLine_eq]; exact o6 hm5) ?_
     rw [kvM_put]
     repeat' walk_at "go"
     refine ⟨_, _, hdm.same hd hn, by rw [Hp.put_ne nMD.symm]; exact hD, Hp.put_at, by rw [Hp.put_ne nTM]; exact hT, by rw [Hp.put_ne nLM]; exact hL, by walk_at "has"⟩
    ·rw [if_neg (by simpa using heq)]
     repeat' walk_at "go"
     refine ⟨_, _, hdm.worse hd (by exact o163 hlt heq), hD, hM, hT, hL, by walk_at "has"⟩
  ·rw [kvI_hasF hd, if_pos (by decide)]
   repeat' walk_at "go"
   refine Op2.tail_lst (fun _ _ => ⟨_, rfl⟩) (Op2.item_lst_neg (by exact o3) (by exact o8 wl2) (by exact o4) wl1 ?_)
   refine OpU.setItem_dict hD (by simp [kvM, sizeLine_eq]; exact o6 hd5) ?_
   rw [kvM_put]
   repeat' walk_at "go"
   refine Op2.tail_lst (fun _ _ => ⟨_, rfl⟩) (Op2.item_lst_neg (by exact o3) (by exact o8 wl2) (by exact o4) wl1 ?_)
   refine OpU.setItem_dict (by rw [Hp.put_ne nMD]; exact hM) (by simp [kvM, sizeLine_eq]; exact o6 hm5) ?_
   rw [kvM_put]
   repeat' walk_at "go"
   refine ⟨_, _, hdm.better (fun d' hd' => (hd ⟨d', hd'⟩).elim), by rw [Hp.put_ne nMD.symm]; exact Hp.put_at, Hp.put_at, by rw [Hp.put_ne nTM, Hp.put_ne nTD]; exact hT, by rw [Hp.put_ne nLM, Hp.put_ne nLD]; exact hL, by walk_at "has"⟩
 ·rintro m' H' ⟨due, many, hdm, hD, hM, hT, hL, hm⟩
  walk_at "m',H',due,many|hdm,hD,hM,hT,hL,hm"
  rw [List.take_of_length_le (by simp)] at hdm
  have hdt : ∀ v d, (v, d) ∈ due ↔ (v, d) ∈ t := fun v d => (hdm.dist hall v d).trans (ht v d).symm
  have nLT : aL ≠ aT := fun q => by rw [q, hT] at hL; cases hL
  show TS prog w s₀ A env _ _ m' H'
  refine TS.has hm ?_
  simp only [Loc.ofArgs, List.foldl]
  refine TS.view (x := Str.ofString "told") (by walk_at "look") k2 (Turn.dict hT) ?_
  refine TS.view (x := Str.ofString "due") (by walk_at "look") k4 (Turn.dict (by unfold Hp.del; rw [if_neg nTD.symm]; exact hD)) ?_
  refine TS.view (x := Str.ofString "heads") (by walk_at "look") k3 (Turn.list (by unfold Hp.del; rw [if_neg nLD, if_neg nLT]; exact hL)) ?_
  repeat' walk_at "go"
  refine Op2.ne_dct (d := t) (e := due) hu ?_
  rw [dictEq_of htn hdm.nd (fun k v => (hdt k v).symm)]
  repeat' walk_at "go"
  rw [if_neg (by decide)]
  repeat' walk_at "go"
  refine TC.sorted_lst (l := hs) (by exact o164 hsl) fun l' e1 e2 => ?_
  walk_at "l'|e1,e2"
  have es := sorted_same e1 hso e2
  subst es
  refine Op2.ne_lst hu' ?_
  rw [decide_eq_true rfl]
  refine OpB.bool ?_
  rw [if_neg (by decide)]
  refine TAll.or_nil (iteF (TS.nil ?_))
  show TS prog w s₀ A env (topBody 22 14) _ _ _
  refine TS.has (l := [(Str.ofString "words", .lst (W.map Mine.S)), (Str.ofString "steps", stepsV T), (Str.ofString "told", .dct (kvI t)), (Str.ofString "many", .ref aM)]) (by walk_at "has") ?_
  refine h F due many aM _ hall hF hdm hdt ?_
  unfold Hp.del
  rw [if_neg nLM.symm, if_neg nMD, if_neg nTM.symm]
  exact hM
end
section
open PySem.Calls
variable {K : Frag}
noncomputable def keepF (q : Int → Bool) : V → Option V
 | .int u => if q u = true then some (.int u) else none
 | _ => none
theorem keepF_all (q : Int → Bool) (l : List Int) : (intsV l).filterMap (keepF q) = intsV (l.filter q) := by
 induction l with
 | nil => rfl
 | cons u l ih =>
  have e : (intsV (u :: l)).filterMap (keepF q) = ((keepF q (.int u)).toList ++ (intsV l).filterMap (keepF q)) := by
   rw [intsV, List.map_cons, List.filterMap_cons]; cases keepF q (.int u) <;> rfl
  rw [e, ih, List.filter_cons]
  by_cases h : q u = true
  ·simp [keepF, h, intsV]
  ·simp [keepF, h]
theorem told_get {t : Tab} (nd : (t.map (·.1)).Nodup) {v d : Int} (h : (v, d) ∈ t) : dget (kvI t) v = some (.int (tv t v)) := by
 have := gget_mem nd h
 dsimp only at this
 rw [kvM_get, tv, this]; rfl
theorem step_get {T : List Tab} {u v c : Int} (h : gget (tabAt T u) v = some c) : dget (kvI (tabAt T u)) v = some (.int c) := by rw [kvM_get, h]; rfl
theorem step_has {T : List Tab} {u v : Int} : dhas (kvI (tabAt T u)) v = (gget (tabAt T u) v).isSome := by rw [kvM_has]; rfl
theorem keys_get' {t : Tab} {i : Nat} {x : V} (h : ((kvI t).map fun kv => V.int kv.1)[i]? = some x) : ∃ v d, (ks t)[i]? = some v ∧ (v, d) ∈ t ∧ x = .int v := by
 obtain ⟨e, he, rfl⟩ := kvI_keys h
 exact ⟨e.1, e.2, by rw [ks, List.getElem?_map, he]; rfl, List.mem_of_getElem? he, rfl⟩
theorem law4a (p : DefParts) (hp : topDef 22 = some p) {fa : Addr} {n q : Str} {dv kv dc pm : Value} {an : Option Addr} {cd ct : Value} (L : Addr) (P : Prg s₀ mg mb) {rn : Nat} (r : Room A (rn + 4)) {Q : V → Prop}
  {W : List (List Nat)} {T : List Tab} (g : TOk T) {t : Tab} (htr : ∀ v d, (v, d) ∈ t → 0 ≤ v ∧ v < 5) (htn : (t.map (·.1)).Nodup) {aM : Addr} {many : Tab} (hM : H aM = some (.dict (kvI many)))
  (h : ∀ (aN : Addr) (H' : Hp), H' aN = some (.dict (kvL (needsL T t))) → H' aM = some (.dict (kvI many)) →
   TS prog w s₀ A (callEnvC (mkFd p n q dv kv dc pm an cd ct) L fa) (topBody 22 16) (fun f _ _ => Q (retV f)) (Loc.ofArgs [(Str.ofString "words", .lst (W.map Mine.S)), (Str.ofString "steps", stepsV T), (Str.ofString "told", .dct (kvI t)), (Str.ofString "many", .ref aM), (Str.ofString "needs", .ref aN)]) H') :
  TS prog w s₀ A (callEnvC (mkFd p n q dv kv dc pm an cd ct) L fa) (topBody 22 14) (fun f _ _ => Q (retV f)) (Loc.ofArgs [(Str.ofString "words", .lst (W.map Mine.S)), (Str.ofString "steps", stepsV T), (Str.ofString "told", .dct (kvI t)), (Str.ofString "many", .ref aM)]) H := by
 walk_at "prog,w,s₀,H,A,mg,mb,p,fa,n,q,dv,kv,dc,pm,an,cd,ct,L,rn,Q,W,T,t,aM,many|hp,P,r,g,htr,htn,hM,h"
 try simp only [Loc.ofArgs, List.foldl]
 have e := def_eq hp rfl
 have hb := congrArg DefParts.body e
 have hs := congrArg DefParts.scope e
 dsimp only at hb hs
 have hb2 : topBody 22 14 = List.drop 14 p.body := by unfold topBody; rw [hp]
 rw [hb2, hb]
 dsimp only [List.drop]
 have hcell : ∀ x, p.scope.names.lookup x = some .cell → stored? (callEnvC (mkFd p n q dv kv dc pm an cd ct) L fa) x = true := fun x hx => stored_cell hx
 rw [hs] at hcell
 generalize henv : callEnvC (mkFd p n q dv kv dc pm an cd ct) L fa = env at hcell h ⊢
 obtain ⟨hE, hsc⟩ := env_of henv hs rfl rfl rfl rfl
 have k0 := held_of "words" hsc rfl
 have k1 := held_of "steps" hsc rfl
 have k2 := held_of "told" hsc rfl
 have k3 := held_of "many" hsc rfl
 have k4 := held_of "needs" hsc rfl
 have k5 := held_of "v" hsc rfl
 have s0 := stored_of "needs" hsc rfl
 have s1 : stored? env (Str.ofString "v") = true := hcell _ (by rfl)
 have g0 := kind_g "list" hsc rfl
 have c0 := kind_c "few" hsc rfl
 have c1 := kind_c "base" hsc rfl
 have c2 := kind_c "words" hsc rfl
 have c3 := kind_c "steps" hsc rfl
 have c4 := kind_c "most" hsc rfl
 have c5 := kind_c "told" hsc rfl
 have c6 := kind_c "v" hsc rfl
 have c7 := kind_c "ends" hsc rfl
 have c8 := kind_c "counts" hsc rfl
 have hG := P.G
 have v0 := P.nlist
 have b0 := boot_list
 have q0 : KeepOk prog w s₀ (.raw (.type "list")) := keep_ty _
 clear hsc henv hs hb e hp hb2 hcell
 have ht5 : t.length ≤ 5 := tab_small htn htr
 repeat' walk_at "go"
 refine TE.dict0 fun aN hN => ?_
 walk_at "aN|hN"
 have nMN : aM ≠ aN := fun q => by rw [q, hN] at hM; cases hM
 have hN1 : (H.put aN (.dict [])) aN = some (.dict (kvL [])) := Hp.put_at
 have hM1 : (H.put aN (.dict [])) aM = some (.dict (kvI many)) := by rw [Hp.put_ne nMN]; exact hM
 clear hN hM
 generalize H.put aN (.dict []) = H1 at *
 repeat' walk_at "go"
 refine T1.fors ?_
 repeat' walk_at "go"
 refine ⟨_, OpIt.dct r.h, fun j m' H' => H' aN = some (.dict (kvL ((needsL T t).take j))) ∧ H' aM = some (.dict (kvI many)) ∧
  Has m' [(Str.ofString "words", .lst (W.map Mine.S)), (Str.ofString "steps", stepsV T), (Str.ofString "told", .dct (kvI t)), (Str.ofString "many", .ref aM), (Str.ofString "needs", .ref aN)], ⟨hN1, hM1, by walk_at "has"⟩, ?_, ?_⟩
 ·clear hN1 hM1
  rintro j x m' H' hx ⟨hN, hM, hm⟩
  walk_at "j,x,m',H'|hx,hN,hM,hm"
  obtain ⟨v, d, hv, hvd, rfl⟩ := keys_get' hx
  walk_at "v,d|hv,hvd,hx"
  have hj := (List.getElem?_eq_some_iff.mp hv).1
  refine TA.has hm ?_
  simp only [Loc.ofArgs, List.foldl]
  refine TA.name hE s1 ?_
  refine TS.cons (T1.assign_sub (TE.comp_lst hE (by rfl) (by decide +kernel) (Reads.of (fr := [Str.ofString "steps", Str.ofString "told", Str.ofString "v"]) (by decide +kernel) (ReadsL.cons (.inl c3) (by walk_at "look") (ReadsL.cons (.inl c5) (by walk_at "look") (ReadsL.cons (.inl c6) (by walk_at "look") ReadsL.nil)))) ?_))
  repeat' walk_at "go"
  refine Turns.go (f := keepF fun u => tgt T t u v) hE (by rfl) (.inl (by rfl)) (OpIt.dct r.h) (by simp [kvM, sizeLine_eq]; exact o6 ht5) (Reads.of (fr := [Str.ofString "steps", Str.ofString "told", Str.ofString "v"]) (by decide +kernel) (ReadsL.cons (.inl c3) (by walk_at "look") (ReadsL.cons (.inl c5) (by walk_at "look") (ReadsL.cons (.inl c6) (by walk_at "look") ReadsL.nil)))) (fun ce hce i x hx M mk mo => ?_) ?_
  ·walk_at "ce,i,x,M|hce,hx,mk,mo"
   obtain ⟨u, d', hu, hud, rfl⟩ := keys_get' hx
   walk_at "u,d'|hu,hud,hx,mk"
   have hur := htr u d' hud
   have hE' := hce.E
   have x0 := hce.held (y := Str.ofString "u") (by rfl)
   have x1 := hce.held (y := Str.ofString "steps") (by rfl)
   have x2 := hce.held (y := Str.ofString "told") (by rfl)
   have x3 := hce.held (y := Str.ofString "v") (by rfl)
   have y1 := mo (Str.ofString "steps") _ (by simp [ofString_eq]) (by rfl) (by walk_at "look")
   have y2 := mo (Str.ofString "told") _ (by simp [ofString_eq]) (by rfl) (by walk_at "look")
   have y3 := mo (Str.ofString "v") _ (by simp [ofString_eq]) (by rfl) (by walk_at "look")
   refine TIfs.cons ?_
   repeat' walk_at "go"
   refine Op2.tail_lst (fun _ _ => ⟨_, rfl⟩) (Op2.item_lst hur.1 (by exact o0 hur) (steps_at g hur) ?_)
   refine Op2.in_dct ?_
   repeat' walk_at "go"
   rw [step_has]
   cases hg : gget (tabAt T u) v with
   | none =>
    rw [if_neg (by decide)]
    rw [if_neg (by decide), if_neg (by decide)]
    refine ⟨?_, rfl, rfl⟩
    simp [keepF, tgt, hg]
   | some c =>
    walk_at "c|hg"
    rw [if_pos (by rfl)]
    repeat' walk_at "go"
    refine Op2.tail_dct (fun _ _ => ⟨_, rfl⟩) (Op2.item_dct (told_get htn hud) ?_)
    repeat' walk_at "go"
    refine Op2.tail_lst (fun _ _ => ⟨_, rfl⟩) (Op2.item_lst hur.1 (by exact o0 hur) (steps_at g hur) ?_)
    repeat' walk_at "go"
    refine Op2.tail_dct (fun _ _ => ⟨_, rfl⟩) (Op2.item_dct (step_get hg) ?_)
    repeat' walk_at "go"
    refine Op2.tail_dct (fun _ _ => ⟨_, rfl⟩) (Op2.item_dct (told_get htn hvd) ?_)
    repeat' walk_at "go"
    by_cases heq : tv t u + c = tv t v
    ·rw [if_pos (by simpa using heq)]
     refine TAll.and_nil (iteT (TIfs.nil (iteT ?_)))
     repeat' walk_at "go"
     exact ⟨by simp [keepF, tgt, hg, heq], rfl, rfl⟩
    ·rw [if_neg (by simpa using heq), if_neg (by decide), if_neg (by decide)]
     exact ⟨by simp [keepF, tgt, hg, heq], rfl, rfl⟩
  ·have ek : ((kvI t).map fun kv => V.int kv.1) = intsV (ks t) := by simp [kvM, ks, intsV, Function.comp_def]
   rw [ek, keepF_all]
   repeat' walk_at "go"
   refine OpU.setItem_dict hN (by simp [kvM, needsL, ks, sizeLine_eq]; exact o165 ht5) ?_
   have hv' : (needsL T t)[j]? = some (v, needsP T t v) := by rw [needsL, List.getElem?_map, hv]; rfl
   have hnew : ∀ e ∈ (needsL T t).take j, e.1 ≠ v := fun e he q => by
    obtain ⟨i, hi, e1⟩ := List.getElem_of_mem he
    walk_at "i|hi,e1"
    rw [List.length_take] at hi
    have e2 : (ks t)[i]? = some e.1 := by
     have : (needsL T t)[i]? = some e := by rw [← e1, List.getElem_take, List.getElem?_eq_getElem]
     rw [needsL, List.getElem?_map] at this
     cases e3 : (ks t)[i]? with
     | none => rw [e3] at this; cases this
     | some z => rw [e3] at this; cases this; rfl
    rw [q] at e2
    have hjl : j < (ks t).length := (List.getElem?_eq_some_iff.mp hv).1
    have := (List.getElem?_inj (by have := (List.getElem?_eq_some_iff.mp e2).1; exact this) htn).mp (e2.trans hv.symm)
    exact o166 hi this
   have ed : dput (kvL ((needsL T t).take j)) v (.lst (intsV (needsP T t v))) = kvL ((needsL T t).take (j + 1)) := by
    rw [kvL, kvM_put, gput_new hnew, List.take_add_one, hv']; rfl
   rw [show (ks t).filter (fun u => tgt T t u v) = needsP T t v from rfl, ed]
   repeat' walk_at "go"
   exact ⟨Hp.put_at, by rw [Hp.put_ne nMN]; exact hM, by walk_at "has"⟩
 ·rintro m' H' ⟨hN, hM, hm⟩
  rw [List.take_of_length_le (by simp [kvM, needsL, ks])] at hN
  show TS prog w s₀ A env (topBody 22 16) _ m' H'
  refine TS.has hm ?_
  exact h aN H' hN hM
end
section
open PySem.Calls
variable {K : Frag}
theorem law4b (p : DefParts) (hp : topDef 22 = some p) {fa : Addr} {n q : Str} {dv kv dc pm : Value} {an : Option Addr} {cd ct : Value} (L : Addr) (P : Prg s₀ mg mb) {rn : Nat} (r : Room A (rn + 4)) {Q : V → Prop}
  {W : List (List Nat)} {T : List Tab} (g : TOk T) {t : Tab} (htr : ∀ v d, (v, d) ∈ t → 0 ≤ v ∧ v < 5) (htn : (t.map (·.1)).Nodup) {aM aN : Addr}
  (h : TS prog w s₀ A (callEnvC (mkFd p n q dv kv dc pm an cd ct) L fa) (topBody 22 18) (fun f _ _ => Q (retV f)) (Loc.ofArgs [(Str.ofString "words", .lst (W.map Mine.S)), (Str.ofString "steps", stepsV T), (Str.ofString "told", .dct (kvI t)), (Str.ofString "many", .ref aM), (Str.ofString "needs", .ref aN), (Str.ofString "ends", .lst (intsV (endsN T t 5)))]) H) :
  TS prog w s₀ A (callEnvC (mkFd p n q dv kv dc pm an cd ct) L fa) (topBody 22 16) (fun f _ _ => Q (retV f)) (Loc.ofArgs [(Str.ofString "words", .lst (W.map Mine.S)), (Str.ofString "steps", stepsV T), (Str.ofString "told", .dct (kvI t)), (Str.ofString "many", .ref aM), (Str.ofString "needs", .ref aN)]) H := by
 walk_at "prog,w,s₀,H,A,mg,mb,p,fa,n,q,dv,kv,dc,pm,an,cd,ct,L,rn,Q,W,T,t,aM,aN|hp,P,r,g,htr,htn,h"
 try simp only [Loc.ofArgs, List.foldl]
 have e := def_eq hp rfl
 have hb := congrArg DefParts.body e
 have hs := congrArg DefParts.scope e
 dsimp only at hb hs
 have hb2 : topBody 22 16 = List.drop 16 p.body := by unfold topBody; rw [hp]
 rw [hb2, hb]
 dsimp only [List.drop]
 have hcell : ∀ x, p.scope.names.lookup x = some .cell → stored? (callEnvC (mkFd p n q dv kv dc pm an cd ct) L fa) x = true := fun x hx => stored_cell hx
 rw [hs] at hcell
 generalize henv : callEnvC (mkFd p n q dv kv dc pm an cd ct) L fa = env at hcell h ⊢
 obtain ⟨hE, hsc⟩ := env_of henv hs rfl rfl rfl rfl
 have k0 := held_of "words" hsc rfl
 have k1 := held_of "steps" hsc rfl
 have k2 := held_of "told" hsc rfl
 have k3 := held_of "many" hsc rfl
 have k4 := held_of "needs" hsc rfl
 have k5 := held_of "ends" hsc rfl
 have k6 := held_of "turn" hsc rfl
 have s0 : stored? env (Str.ofString "ends") = true := hcell _ (by rfl)
 have s1 := stored_of "turn" hsc rfl
 have g0 := kind_g "list" hsc rfl
 have g1 := kind_g "range" hsc rfl
 have c0 := kind_c "few" hsc rfl
 have c1 := kind_c "base" hsc rfl
 have c2 := kind_c "words" hsc rfl
 have c3 := kind_c "steps" hsc rfl
 have c4 := kind_c "most" hsc rfl
 have c5 := kind_c "told" hsc rfl
 have c6 := kind_c "v" hsc rfl
 have c7 := kind_c "ends" hsc rfl
 have c8 := kind_c "counts" hsc rfl
 have hG := P.G
 have v0 := P.nlist
 have b0 := boot_list
 have q0 : KeepOk prog w s₀ (.raw (.type "list")) := keep_ty _
 have v1 := P.nrange
 have b1 := boot_range
 have q1 : KeepOk prog w s₀ (.raw (.type "range")) := keep_ty _
 clear hsc henv hs hb e hp hb2 hcell
 have hu' : A.units + 2 < cLine := by have := r.u; unfold cLine; exact o44 this
 have ht5 : t.length ≤ 5 := tab_small htn htr
 have ek : ((kvI t).map fun kv => V.int kv.1) = intsV (ks t) := by simp [kvM, ks, intsV, Function.comp_def]
 have ekr : ∀ v ∈ ks t, 0 ≤ v ∧ v < 5 := fun v hv => by obtain ⟨e, he, rfl⟩ := List.mem_map.mp hv; exact htr e.1 e.2 he
 have hel : ∀ n, (endsN T t n).length ≤ 5 ∧ ∀ u ∈ endsN T t n, 0 ≤ u ∧ u < 5 := fun n => by
  cases n with
  | zero => exact ⟨by show (t.map _).length ≤ 5; rw [List.length_map]; exact ht5, ekr⟩
  | succ n => exact ⟨Nat.le_trans (List.length_filter_le _ _) (by rw [ks, List.length_map]; exact ht5), fun u hu => ekr u (List.mem_filter.mp hu).1⟩
 repeat' walk_at "go"
 refine TC.list_dct r.h (by simp [kvM, sizeLine_eq]; exact o6 ht5) ?_
 rw [show (kvI t).map (·.1) = endsN T t 0 by simp [kvM, endsN, ks]]
 repeat' walk_at "go"
 refine T1.fors ?_
 repeat' walk_at "go"
 refine TC.range1 ?_
 refine ⟨_, OpIt.rng r.h (by rfl), fun i m' H' => H = H' ∧ Has m' [(Str.ofString "words", .lst (W.map Mine.S)), (Str.ofString "steps", stepsV T), (Str.ofString "told", .dct (kvI t)), (Str.ofString "many", .ref aM), (Str.ofString "needs", .ref aN), (Str.ofString "ends", .lst (intsV (endsN T t i)))], ⟨rfl, by walk_at "has"⟩, ?_, ?_⟩
 ·rintro i x m' _ hx ⟨rfl, hm⟩
  walk_at "i,x,m'|hx,hm"
  refine TA.has hm ?_
  simp only [Loc.ofArgs, List.foldl]
  refine TA.name hE s1 ?_
  obtain ⟨hel1, hel2⟩ := hel i
  generalize hEn : endsN T t i = en at *
  refine TS.cons (T1.assign_name hE s0 (hs := swaps_cell c7) (TE.comp_lst hE (by rfl) (by decide +kernel) (Reads.of (fr := [Str.ofString "ends", Str.ofString "steps"]) (by decide +kernel) (ReadsL.cons (.inl c7) (by walk_at "look") (ReadsL.cons (.inl c3) (by walk_at "look") ReadsL.nil))) ?_))
  repeat' walk_at "go"
  refine Turns.go (f := keepF fun v => !decide ((en.filter fun u => free T u v) = [])) hE (by rfl) (.inr (by rfl)) (OpIt.dct r.h) (by simp [kvM, sizeLine_eq]; exact o6 ht5) (Reads.of (fr := [Str.ofString "ends", Str.ofString "steps"]) (by decide +kernel) (ReadsL.cons (.inl c7) (by walk_at "look") (ReadsL.cons (.inl c3) (by walk_at "look") ReadsL.nil))) (fun ce hce i x hx M mk mo => ?_) ?_
  ·walk_at "ce,i,x,M|hce,hx,mk,mo"
   obtain ⟨v, d', hv, hvd, rfl⟩ := keys_get' hx
   walk_at "v,d'|hv,hvd,hx,mk"
   have hE' := hce.E
   have x0 := hce.held (y := Str.ofString "v") (by rfl)
   have x1 := hce.held (y := Str.ofString "ends") (by rfl)
   have x2 := hce.held (y := Str.ofString "steps") (by rfl)
   have y1 := mo (Str.ofString "ends") _ (by simp [ofString_eq]) (by rfl) (by walk_at "look")
   have y2 := mo (Str.ofString "steps") _ (by simp [ofString_eq]) (by rfl) (by walk_at "look")
   have z1 : ce.kindOf (Str.ofString "steps") = some .cell ∨ ce.kindOf (Str.ofString "steps") = some .free := hce.f _ (by rfl)
   have z2 : ce.kindOf (Str.ofString "v") = some .cell := hce.k _ _ (by rfl) (by decide)
   refine TIfs.cons (TB.cmp (TE.comp_lst hE' (by rfl) (by decide +kernel) (Reads.of (fr := [Str.ofString "steps", Str.ofString "v"]) (by decide +kernel) (ReadsL.cons z1 y2 (ReadsL.cons (.inl z2) mk ReadsL.nil))) ?_))
   repeat' walk_at "go"
   refine Turns.go (f := keepF fun u => free T u v) hE' (by rfl) (.inl (by rfl)) (OpIt.lst r.h) (by simp [intsV, sizeLine_eq]; exact o6 hel1) (Reads.of (fr := [Str.ofString "steps", Str.ofString "v"]) (by decide +kernel) (ReadsL.cons z1 y2 (ReadsL.cons (.inl z2) mk ReadsL.nil))) (fun ce2 hce2 i2 x hx2 M2 mk2 mo2 => ?_) ?_
   ·walk_at "ce2,i2,x,M2|hce2,hx2,mk2,mo2"
    obtain ⟨u, hu, rfl⟩ := intsV_get hx2
    walk_at "u|hu,hx2,mk2"
    have hur := hel2 u (List.mem_of_getElem? hu)
    have hE2 := hce2.E
    have w0 := hce2.held (y := Str.ofString "u") (by rfl)
    have w1 := hce2.held (y := Str.ofString "steps") (by rfl)
    have w2 := hce2.held (y := Str.ofString "v") (by rfl)
    have t1 := mo2 (Str.ofString "steps") _ (by simp [ofString_eq]) (by rfl) y2
    have t2 := mo2 (Str.ofString "v") _ (by simp [ofString_eq]) (by rfl) mk
    clear mo2
    refine TIfs.cons ?_
    repeat' walk_at "go"
    refine Op2.tail_lst (fun _ _ => ⟨_, rfl⟩) (Op2.item_lst hur.1 (by exact o0 hur) (steps_at g hur) ?_)
    refine Op2.in_dct ?_
    repeat' walk_at "go"
    rw [step_has]
    cases hg : gget (tabAt T u) v with
    | none =>
     rw [if_neg (by decide)]
     rw [if_neg (by decide), if_neg (by decide)]
     refine ⟨?_, rfl, rfl⟩
     simp [keepF, free, hg]
    | some c =>
     walk_at "c|hg"
     rw [if_pos (by rfl)]
     repeat' walk_at "go"
     refine Op2.tail_lst (fun _ _ => ⟨_, rfl⟩) (Op2.item_lst hur.1 (by exact o0 hur) (steps_at g hur) ?_)
     repeat' walk_at "go"
     refine Op2.tail_dct (fun _ _ => ⟨_, rfl⟩) (Op2.item_dct (step_get hg) ?_)
     repeat' walk_at "go"
     by_cases heq : c = 0
     ·rw [if_pos (by simpa using heq)]
      refine TAll.and_nil (iteT (TIfs.nil (iteT ?_)))
      repeat' walk_at "go"
      exact ⟨by simp [keepF, free, hg, heq], rfl, rfl⟩
     ·rw [if_neg (by simpa using heq), if_neg (by decide), if_neg (by decide)]
      exact ⟨by simp [keepF, free, hg, heq], rfl, rfl⟩
   ·rw [keepF_all]
    repeat' walk_at "go"
    refine TE.listZ ?_
    repeat' walk_at "go"
    refine ⟨by simp [sizeLine_eq], ?_⟩
    refine Op2.ne_lst (l' := []) hu' ?_
    repeat' walk_at "go"
    by_cases he : (en.filter fun u => free T u v) = []
    ·rw [if_neg (by simp [he]), if_neg (by decide)]
     exact ⟨by simp [keepF, he], rfl, rfl⟩
    ·rw [if_pos (by simp [he])]
     refine TIfs.nil (iteT ?_)
     repeat' walk_at "go"
     exact ⟨by simp [keepF, he], rfl, rfl⟩
  ·rw [ek, keepF_all]
   repeat' walk_at "go"
   refine ⟨rfl, ?_⟩
   rw [show endsN T t (i + 1) = (ks t).filter (fun v => !decide ((en.filter fun u => free T u v) = [])) by rw [endsN, hEn]; rfl]
   walk_at "has"
 ·rintro m' _ ⟨rfl, hm⟩
  show TS prog w s₀ A env (topBody 22 18) _ m' H
  refine TS.has hm ?_
  exact h
end
section
open PySem.Calls
variable {K : Frag}
theorem wpAny_AndC {M : Model} {x y : Expr} {rest : List Expr} {pos : Pos} {Q : Value → Shared → Prop} {E : Value → Shared → Prop}
  (h : wpAny M A (eval x env) (fun v s₁ => wpAny M A (truthy v) (fun t s₂ => if t then wpAny M A (eval (.BoolOp .And (y :: rest) pos) env) Q E s₂ else Q v s₂) E s₁) E s) :
  wpAny M A (eval (.BoolOp .And (x :: y :: rest) pos) env) Q E s := by
 show wpAny M A (do
  let v ← eval x env
  standAt pos
  let t ← holding [v] (truthy v)
  match BoolOp.And, t with
  | .And, false | .Or, true => pure v
  | _, _ => boolOp pos .And (evalEach (y :: rest) env)) Q E s
 refine wpAny_bind (wpAny_mono h (fun v s₁ h₁ => wpAny_bind (wpAny_standAt (wpAny_bind (wpAny_holding (wpAny_mono h₁ (fun t s₂ h₂ => ?_) fun _ _ x => x))))) fun _ _ x => x)
 cases t with
 | false => exact wpAny_pure h₂
 | true => exact h₂
theorem TE.andC {x y : Expr} {rest : List Expr} {pos : Pos} {Q : V → Loc → Hp → Prop} (h : TE prog w s₀ A env x (fun a m1 H1 => OpB prog w s₀ A truthy a (fun b H2 => if b = true then TE prog w s₀ A env (.BoolOp .And (y :: rest) pos) Q m1 H2 else Q a m1 H2) H1) m H) :
  TE prog w s₀ A env (.BoolOp .And (x :: y :: rest) pos) Q m H := by
 walk_at "prog,w,s₀,H,env,m,A,x,y,rest,pos,Q|h"
 refine .mk ?_
 intro B Z s R
 walk_at "B,Z,s|R"
 refine wpAny_AndC (wpAny_mono (h.run B Z s R) ?_ (fun _ _ x => x))
 rintro x s1 ⟨a, m1, H1, Z1, l1, R1, v1, h1⟩
 refine wpAny_mono (R1.opP (Q' := fun b m2 H2 => m2 = m1 ∧ if b = true then TE prog w s₀ A env (.BoolOp .And (y :: rest) pos) Q m1 H2 else Q a m1 H2) (h1.run _ Z1 s1 x R1.enter v1) fun _ _ q => ⟨rfl, q⟩) ?_ (fun _ _ x => x)
 rintro b s2 ⟨m2, H2, Z2, l2, R2, rfl, h2⟩
 cases b with
 | true => exact wpAny_mono (h2.run B Z2 s2 R2) (fun _ _ q => PE.le (l1.trans l2) q) (fun _ _ x => x)
 | false => exact ⟨a, m2, H2, Z2, l1.trans l2, R2, v1.mono l2, h2⟩
theorem TE.and1 {x : Expr} {pos : Pos} {Q : V → Loc → Hp → Prop} (h : TE prog w s₀ A env x Q m H) : TE prog w s₀ A env (.BoolOp .And [x] pos) Q m H := .mk fun B Z s R => by
 show wpAny _ A (eval x env) _ _ s
 exact h.run B Z s R
theorem law5 (p : DefParts) (hp : topDef 22 = some p) {fa : Addr} {n q : Str} {dv kv dc pm : Value} {an : Option Addr} {cd ct : Value} (L : Addr) (P : Prg s₀ mg mb) (C : Cls s₀ K) {CE : Addr} (O : OwnClsQ (Str.ofString "CycleError") CE veM "ValueError.__new__" mg s₀.heap) {rn : Nat} (r : Room A (rn + 7))
  (hfr : A.frames = some [callEnvC (mkFd p n q dv kv dc pm an cd ct) L fa]) (hst : ∀ e ∈ [callEnvC (mkFd p n q dv kv dc pm an cd ct) L fa], e.scope.kind ≠ .module ∧ ∃ L, e.frame = some L) {Q : V → Prop} (hQ : Q (.bool true))
  {W : List (List Nat)} {T : List Tab} {nr : List Int} {t : Tab} (f : Fd W T nr t) (hWl : W.length = 5) {aM aN : Addr} {many : Tab} (hN : H aN = some (.dict (kvL (needsL T t)))) (hM : H aM = some (.dict (kvI many)))
  (h : ∀ (l : List Nd) (pos : Int → Nat) (S D RD : Addr) (H0 H' : Hp), NdOk T t l → Ord T t pos → Srt H0 H' S D l (.ref RD) 0 0 → H' RD = some (.list (intsV (rdyOf l))) → H0 aM = some (.dict (kvI many)) → H0 RD = none →
   TS prog w s₀ A (callEnvC (mkFd p n q dv kv dc pm an cd ct) L fa) (topBody 22 20) (fun f _ _ => Q (retV f)) (Loc.ofArgs [(Str.ofString "many", .ref aM), (Str.ofString "needs", .dct (kvL (needsL T t))), (Str.ofString "ends", .lst (intsV [])), (Str.ofString "sorter", .ref S)]) H') :
  TS prog w s₀ A (callEnvC (mkFd p n q dv kv dc pm an cd ct) L fa) (topBody 22 18) (fun f _ _ => Q (retV f)) (Loc.ofArgs [(Str.ofString "words", .lst (W.map Mine.S)), (Str.ofString "steps", stepsV T), (Str.ofString "told", .dct (kvI t)), (Str.ofString "many", .ref aM), (Str.ofString "needs", .ref aN), (Str.ofString "ends", .lst (intsV (endsN T t 5)))]) H := by
 walk_at "prog,w,s₀,H,A,mg,mb,K,p,fa,n,q,dv,kv,dc,pm,an,cd,ct,L,CE,rn,Q,W,T,nr,t,aM,aN,many|hp,P,C,O,r,hfr,hst,hQ,f,hWl,hN,hM,h"
 try simp only [Loc.ofArgs, List.foldl]
 have e := def_eq hp rfl
 have hb := congrArg DefParts.body e
 have hs := congrArg DefParts.scope e
 dsimp only at hb hs
 have hb2 : topBody 22 18 = List.drop 18 p.body := by unfold topBody; rw [hp]
 rw [hb2, hb]
 dsimp only [List.drop]
 have hcell : ∀ x, p.scope.names.lookup x = some .cell → stored? (callEnvC (mkFd p n q dv kv dc pm an cd ct) L fa) x = true := fun x hx => stored_cell hx
 rw [hs] at hcell
 generalize henv : callEnvC (mkFd p n q dv kv dc pm an cd ct) L fa = env at hcell h hfr hst ⊢
 obtain ⟨hE, hsc⟩ := env_of henv hs rfl rfl rfl rfl
 have k0 := held_of "words" hsc rfl
 have k1 := held_of "steps" hsc rfl
 have k2 := held_of "told" hsc rfl
 have k3 := held_of "many" hsc rfl
 have k4 := held_of "needs" hsc rfl
 have k5 := held_of "ends" hsc rfl
 have k6 := held_of "sorter" hsc rfl
 have k7 := held_of "refused" hsc rfl
 have k8 := held_of "ring" hsc rfl
 have k9 := held_of "k" hsc rfl
 have s0 := stored_of "sorter" hsc rfl
 have s1 := stored_of "refused" hsc rfl
 have s2 := stored_of "ring" hsc rfl
 have s3 := stored_of "k" hsc rfl
 have g0 := kind_g "TopologicalSorter" hsc rfl
 have g1 := kind_g "CycleError" hsc rfl
 have g2 := kind_g "len" hsc rfl
 have g3 := kind_g "range" hsc rfl
 have c0 := kind_c "few" hsc rfl
 have c1 := kind_c "base" hsc rfl
 have c2 := kind_c "words" hsc rfl
 have c3 := kind_c "steps" hsc rfl
 have c4 := kind_c "most" hsc rfl
 have c5 := kind_c "told" hsc rfl
 have c6 := kind_c "v" hsc rfl
 have c7 := kind_c "ends" hsc rfl
 have c8 := kind_c "counts" hsc rfl
 have l0 : env.kindOf (Str.ofString "refused") = some .local := Mine.kind_of hsc rfl
 have hG := P.G
 have v0 := P.kTopologicalSorter
 have v1 := P.kCycleError
 have v2 := P.nlen
 have b2 := boot_len
 have q2 : KeepOk prog w s₀ (.raw (.builtin "len")) := keep_bi _
 have v3 := P.nrange
 have b3 := boot_range
 have q3 : KeepOk prog w s₀ (.raw (.type "range")) := keep_ty _
 clear hsc henv hs hb e hp hb2 hcell
 have hu' : A.units + 2 < cLine := by have := r.u; unfold cLine; exact o45 this
 have kc : KeepOk prog w s₀ (.raw (.ref 151)) := KeepOk.cls C.x C.kS
 have kp : KeepOk prog w s₀ (.raw (.ref 106)) := by obtain ⟨p, _, h⟩ := C.a3; exact keep_at h
 have nMN : aM ≠ aN := fun q => by
  subst q
  rw [hN] at hM
  have : kvL (needsL T t) = kvI many := by simpa using hM
  have hz : (0 : Int) ∈ ks t := f.way (p := ([0], 0)) .zero
  cases e : ks t with
  | nil => rw [e] at hz; cases hz
  | cons a r =>
   unfold needsL at this
   rw [e] at this
   cases many <;> simp [kvM] at this
 refine TS.view (x := Str.ofString "needs") (by walk_at "look") k4 (Turn.dict hN) ?_
 have hM1 : (H.del aN) aM = some (.dict (kvI many)) := by unfold Hp.del; rw [if_neg nMN]; exact hM
 clear hM hN
 generalize H.del aN = H1 at *
 have kst : Stk A := ⟨⟨_, hfr, hst⟩⟩
 have hz5 : t.length ≤ 5 := tab_small f.nd fun v d hd => by obtain ⟨p, hp, rfl, _⟩ := ((f.d v d).mp hd).at_; exact hp.endRg f.g.ok
 have hnl : (needsL T t).length ≤ 20 := by simp only [needsL, ks, List.length_map]; exact o167 hz5
 have hnl' : ∀ e ∈ needsL T t, e.2.length ≤ 20 := fun e he => by
  obtain ⟨v, -, rfl⟩ := List.mem_map.mp he
  have := List.length_filter_le (fun u => tgt T t u v) (ks t)
  simp only [ks, List.length_map] at this
  show (List.filter _ _).length ≤ 20
  simp only [ks]
  exact o168 hz5 this
 repeat' walk_at "go"
 refine tc_sorter P C r hnl hnl' fun S D N l H2 hB hpr => ?_
 walk_at "S,D,N,l,H2|hB,hpr"
 have hok := NdOk.of (T := T) f.nd hB.nd hpr
 obtain ⟨H3, hv, hS⟩ := hB.frozen (prog := prog) (w := w) (s₀ := s₀)
 walk_at "H3|hv,hS"
 have hll : l.length ≤ 1000 := by
  have := nodup_le hok.nd (fun v hv => (hok.kk v).mp hv)
  simp only [ks, List.length_map] at this; exact o169 hz5 this
 have hcl : ∀ d ∈ l, ∀ v ∈ d.sc, v ∈ l.map (·.k) := fun d hd v hv => by
  rw [hok.sc d hd] at hv
  exact (hok.kk v).mpr (List.mem_filter.mp hv).1
 show TS prog w s₀ A env _ _ _ _
 refine TS.seen hv ?_
 refine TS.cons (T1.try_call hE hG.g O (by rfl) hfr hst g1 l0 ?_)
 repeat' walk_at "go"
 refine OpM.inst C.x C.m3 hS.s hS.d rfl ?_
 refine ⟨kp, tcx_prepare P C r kst hS hll hcl O (fun fin RD H4 hRD hS4 hR4 f1 f2 f3 f4 => ?_) (fun ring H4 hk hr hrl e => ?_)⟩
 ·walk_at "fin,RD,H4|hRD,hS4,hR4,f1,f2,f3,f4"
  have ho : Ord T t (fin.idxOf ·) := Ord.of hok f1 f2 f3
  have hen := f.no_ends ho
  show TS prog w s₀ A env (topBody 22 20) _ _ _
  refine TS.has (l := [(Str.ofString "many", .ref aM), (Str.ofString "needs", .dct (kvL (needsL T t))), (Str.ofString "ends", .lst (intsV [])), (Str.ofString "sorter", .ref S)]) (by rw [← hen]; walk_at "has") ?_
  refine h l _ S D RD H1 H4 hok ho hS4 hR4 hM1 ?_
  cases q : H1 RD with
  | none => rfl
  | some o => rw [hS.keep RD o q] at hRD; cases hRD
 ·walk_at "ring,H4,e|hk,hr,hrl"
  obtain ⟨key, h2⟩ := f.ring hok hr
  have hends := f.ring_ends hok hr 5
  have hks : ∀ v ∈ ring, v ∈ ks t := fun v hv => (hok.kk v).mp (hr.sub v hv)
  have hne : endsN T t 5 ≠ [] := List.ne_nil_of_mem (hends _ (List.getElem_mem (show 0 < ring.length by exact o46 h2)))
  refine TS.has (l := [(Str.ofString "words", .lst (W.map Mine.S)), (Str.ofString "steps", stepsV T), (Str.ofString "ends", .lst (intsV (endsN T t 5))), (Str.ofString "refused", .exc e CE [V.str (Str.ofString "nodes are in a cycle"), V.lst (intsV ring)])]) (by walk_at "has") ?_
  simp only [Loc.ofArgs, List.foldl]
  repeat' walk_at "go"
  refine Op1.args PySem.F.attrBase_ValueError O ?_
  repeat' walk_at "go"
  refine Op2.tail_xtup (fun _ _ => ⟨_, rfl⟩) (Op2.item_xtup (k := 1) (by decide) rfl ?_)
  repeat' walk_at "go"
  refine T1.forsF ?_
  repeat' walk_at "go"
  refine TC.len_lst (by simp [intsV]; exact o41 hrl) ?_
  repeat' walk_at "go"
  refine TC.range1 ?_
  rw [show ((intsV ring).length : Int) - 1 = ((ring.length - 1 : Nat) : Int) by simp [intsV]; exact o170 h2]
  refine ⟨_, OpItF.rngX rfl l0 (by walk_at "look") (rng_small _ (by exact o171 hrl)), fun i m' H' => H4 = H' ∧ Has m' [(Str.ofString "words", .lst (W.map Mine.S)), (Str.ofString "steps", stepsV T), (Str.ofString "ends", .lst (intsV (endsN T t 5))), (Str.ofString "ring", .lst (intsV ring))], ⟨rfl, by walk_at "has"⟩, ?_, ?_⟩
  ·rintro i x m' _ hx ⟨rfl, hm⟩
   walk_at "i,x,m'|hx,hm"
   obtain ⟨hi, rfl⟩ := rng_get hx
   have ha : ring[i]? = some ring[i] := List.getElem?_eq_getElem (by exact o172 hi)
   have hb : ring[i + 1]? = some ring[i + 1] := List.getElem?_eq_getElem (by omega)
   obtain ⟨ka, kb, kg, kw⟩ := key i _ _ ha hb
   have va : (intsV ring)[(i : Int).toNat]? = some (.int ring[i]) := by rw [Int.toNat_natCast, intsV, List.getElem?_map, ha]; rfl
   have vb : (intsV ring)[((i : Int) + 1).toNat]? = some (.int ring[i + 1]) := by rw [show ((i : Int) + 1).toNat = i + 1 by exact o173, intsV, List.getElem?_map, hb]; rfl
   generalize ring[i] = a at *
   generalize ring[i + 1] = b at *
   have ra := f.rg ka
   have rb := f.rg kb
   refine TA.has hm ?_
   simp only [Loc.ofArgs, List.foldl]
   refine TA.name hE s3 ?_
   repeat' walk_at "go"
   refine Op2.tail_lst (fun _ _ => ⟨_, rfl⟩) (Op2.item_lst (by exact o24) (by exact o25 hrl hi) vb ?_)
   repeat' walk_at "go"
   refine Op2.tail_lst (fun _ _ => ⟨_, rfl⟩) (Op2.item_lst (by exact o1) (by exact o26 hrl hi) va ?_)
   refine Op2.tail_lst (fun _ _ => ⟨_, rfl⟩) (Op2.item_lst ra.1 (by exact o0 ra) (steps_at f.g.ok ra) ?_)
   refine Op2.notin_dct ?_
   repeat' walk_at "go"
   rw [step_has, kg]
   rw [if_neg (by decide)]
   repeat' walk_at "go"
   refine Op2.tail_lst (fun _ _ => ⟨_, rfl⟩) (Op2.item_lst (by exact o1) (by exact o26 hrl hi) va ?_)
   refine Op2.tail_lst (fun _ _ => ⟨_, rfl⟩) (Op2.item_lst ra.1 (by exact o0 ra) (steps_at f.g.ok ra) ?_)
   repeat' walk_at "go"
   refine Op2.tail_lst (fun _ _ => ⟨_, rfl⟩) (Op2.item_lst (by exact o24) (by exact o25 hrl hi) vb ?_)
   refine Op2.tail_dct (fun _ _ => ⟨_, rfl⟩) (Op2.item_dct (step_get kg) ?_)
   repeat' walk_at "go"
   rw [if_neg (by decide)]
   repeat' walk_at "go"
   refine Op2.tail_lst (fun _ _ => ⟨_, rfl⟩) (Op2.item_lst (by exact o1) (by exact o26 hrl hi) va ?_)
   refine Op2.tail_lst (fun _ _ => ⟨_, rfl⟩) (Op2.item_lst ra.1 (by exact o0 ra) (ws_get hWl ra) ?_)
   repeat' walk_at "go"
   refine Op2.tail_lst (fun _ _ => ⟨_, rfl⟩) (Op2.item_lst (by exact o24) (by exact o25 hrl hi) vb ?_)
   refine Op2.tail_lst (fun _ _ => ⟨_, rfl⟩) (Op2.item_lst rb.1 (by exact o0 rb) (ws_get hWl rb) ?_)
   refine Op2.ne_str ?_
   repeat' walk_at "go"
   have kw' : W.getD a.toNat [] = W.getD b.toNat [] := kw
   rw [if_neg (by rw [kw']; simp)]
   repeat' walk_at "go"
   exact ⟨rfl, by walk_at "has"⟩
  ·rintro m' _ ⟨rfl, hm⟩
   walk_at "m'|hm"
   have e0 : ring[0]? = some ring[0] := List.getElem?_eq_getElem (by exact o46 h2)
   have el : ring[ring.length - 1]? = some ring[0] := by rw [← hr.ends]; exact e0
   have v0 : (intsV ring)[(0 : Int).toNat]? = some (.int ring[0]) := by rw [show (0 : Int).toNat = 0 from rfl, intsV, List.getElem?_map, e0]; rfl
   have vl : (intsV ring)[((-1 : Int) + (intsV ring).length).toNat]? = some (.int ring[0]) := by rw [show ((-1 : Int) + (intsV ring).length).toNat = ring.length - 1 by simp [intsV]; exact o22, intsV, List.getElem?_map, el]; rfl
   have lr : (intsV ring).length = ring.length := by simp [intsV]
   show TS prog w s₀ (A.mark (some (.ref e))) env _ _ m' H4
   refine TS.has hm ?_
   simp only [Loc.ofArgs, List.foldl]
   refine TS.cons (T1.ret (TE.andC ?_))
   repeat' walk_at "go"
   refine TE.listZ ?_
   repeat' walk_at "go"
   refine ⟨by simp [sizeLine_eq], ?_⟩
   refine Op2.ne_lst (l' := []) hu' ?_
   repeat' walk_at "go"
   rw [if_pos (by simp [hne])]
   refine TE.andC ?_
   repeat' walk_at "go"
   refine TC.len_lst (by rw [lr]; omega) ?_
   repeat' walk_at "go"
   rw [if_pos (by simp [lr]; omega)]
   refine TE.and1 ?_
   repeat' walk_at "go"
   refine Op2.tail_lst (fun _ _ => ⟨_, rfl⟩) (Op2.item_lst (by exact o13) (by exact o14) v0 ?_)
   repeat' walk_at "go"
   refine Op2.tail_lst (fun _ _ => ⟨_, rfl⟩) (Op2.item_lst_neg (by exact o3) (by rw [lr]; omega) (by exact o4) vl ?_)
   repeat' walk_at "go"
   rw [show (ring[0] == ring[0]) = true by simp]
   exact fun _ => hQ
end
section
open PySem.Calls
variable {K : Frag}
noncomputable def cntOf (F : List Way) (t : Tab) (dn : List Int) : Tab := dn.map fun v => (v, (nW F t v : Int))
noncomputable def cntF (F : List Way) (t : Tab) : V → Option V
 | .int u => some (.int (nW F t u : Int))
 | _ => none
theorem cnt_get {F : List Way} {t : Tab} {dn : List Int} (nd : dn.Nodup) {u : Int} (h : u ∈ dn) : dget (kvI (cntOf F t dn)) u = some (.int (nW F t u : Int)) := by
 have := gget_mem (t := cntOf F t dn) (e := (u, (nW F t u : Int))) (by simpa [cntOf, Function.comp_def] using nd) (List.mem_map.mpr ⟨u, h, rfl⟩)
 rw [kvM_get, this]; rfl
theorem cnt_new {F : List Way} {t : Tab} {dn : List Int} {v : Int} (h : v ∉ dn) : dput (kvI (cntOf F t dn)) v (.int (nW F t v : Int)) = kvI (cntOf F t (dn ++ [v])) := by
 walk_at "F,t,dn,v|h"
 rw [kvI_new (fun ⟨g, hg⟩ => h (by obtain ⟨x, hx, e⟩ := List.mem_map.mp hg; cases e; exact hx))]
 simp [cntOf]
theorem sum_cast (l : List Nat) : ((l.sum : Nat) : Int) = (l.map fun (n : Nat) => (n : Int)).sum := by
 induction l with
 | nil => rfl
 | cons a l ih => rw [List.sum_cons, List.map_cons, List.sum_cons, ← ih]; exact o47
theorem cntF_all (F : List Way) (t : Tab) (l : List Int) : (intsV l).filterMap (cntF F t) = intsV (l.map fun u => (nW F t u : Int)) := by
 induction l with
 | nil => rfl
 | cons u l ih =>
  have e : (intsV (u :: l)).filterMap (cntF F t) = .int (nW F t u : Int) :: (intsV l).filterMap (cntF F t) := rfl
  rw [e, ih]; rfl
theorem Sf.other {H0 H : Hp} {S D RD aC : Addr} {l : List Nd} {np : Int → Int} {rd : List Int} {pp ff : Int} {d d' : List (Int × V)} (h : Sf H0 H S D RD l np rd pp ff) (hC : H aC = some (.dict d)) (h0 : H0 aC = none) : Sf H0 (H.put aC (.dict d')) S D RD l np rd pp ff := by
 have nn : ∀ a o, H a = some o → (∀ f, o ≠ .dict f) → a ≠ aC := fun a o e k q => by rw [q, hC] at e; exact k _ (Option.some.inj e).symm
 refine ⟨?_, ?_, ?_, h.nd, h.nda, fun x hx => ?_, fun a o e => ?_, h.fr⟩
 ·rw [Hp.put_ne (nn _ _ h.s (fun _ q => by cases q))]; exact h.s
 ·rw [Hp.put_ne (nn _ _ h.d (fun _ q => by cases q))]; exact h.d
 ·rw [Hp.put_ne (nn _ _ h.r (fun _ q => by cases q))]; exact h.r
 ·rw [Hp.put_ne (nn _ _ (h.o x hx) (fun _ q => by cases q))]; exact h.o x hx
 ·rw [Hp.put_ne (fun q => by rw [q, h0] at e; cases e)]; exact h.keep a o e
theorem Sf.base {H0 H : Hp} {S D RD aC : Addr} {l : List Nd} {np : Int → Int} {rd : List Int} {pp ff : Int} {d : List (Int × V)} (h : Sf H0 H S D RD l np rd pp ff) (hC : H aC = some (.dict d)) : Sf (H0.put aC (.dict d)) H S D RD l np rd pp ff := by
 have nn : ∀ a o, H a = some o → (∀ f, o ≠ .dict f) → a ≠ aC := fun a o e k q => by rw [q, hC] at e; exact k _ (Option.some.inj e).symm
 refine ⟨h.s, h.d, h.r, h.nd, h.nda, h.o, fun a o e => ?_, ?_, ?_, ?_, fun x hx => ?_⟩
 ·unfold Hp.put at e
  by_cases q : a = aC
  ·rw [if_pos q] at e; rw [q, hC]; exact e
  ·rw [if_neg q] at e; exact h.keep a o e
 ·rw [Hp.put_ne (nn _ _ h.s (fun _ q => by cases q))]; exact h.fr.1
 ·rw [Hp.put_ne (nn _ _ h.d (fun _ q => by cases q))]; exact h.fr.2.1
 ·rw [Hp.put_ne (nn _ _ h.r (fun _ q => by cases q))]; exact h.fr.2.2.1
 ·rw [Hp.put_ne (nn _ _ (h.o x hx) (fun _ q => by cases q))]; exact h.fr.2.2.2 x hx
theorem Sf.drop {H0 H : Hp} {S D RD aC : Addr} {l : List Nd} {np : Int → Int} {rd : List Int} {pp ff : Int} {d : List (Int × V)} (h : Sf (H0.put aC (.dict d)) H S D RD l np rd pp ff) (h0 : H0 aC = none) : Sf H0 H S D RD l np rd pp ff ∧ H aC = some (.dict d) := by
 refine ⟨⟨h.s, h.d, h.r, h.nd, h.nda, h.o, fun a o e => h.keep a o ?_, (put_none h.fr.1).2, (put_none h.fr.2.1).2, (put_none h.fr.2.2.1).2, fun x hx => (put_none (h.fr.2.2.2 x hx)).2⟩, h.keep aC _ Hp.put_at⟩
 rw [Hp.put_ne (fun q => by rw [q, h0] at e; cases e)]; exact e
theorem law6 (p : DefParts) (hp : topDef 22 = some p) {fa : Addr} {n q : Str} {dv kv dc pm : Value} {an : Option Addr} {cd ct : Value} (L : Addr) (P : Prg s₀ mg mb) (C : Cls s₀ K) {rn : Nat} (r : Room A (rn + 7))
  {Q : V → Prop} (hQ : Q (.bool true)) {W : List (List Nat)} {T : List Tab} {nr : List Int} {t : Tab} (f : Fd W T nr t) {F : List Way} {due many : Tab} (hF : F = ([0], 0) :: F.flatMap (ext T)) (hall : ∀ q, q ∈ F ↔ IsWay T q) (hdm : DM F due many) (hdt : ∀ v d, (v, d) ∈ due ↔ (v, d) ∈ t)
  {aM S D RD : Addr} {H0 : Hp} {l : List Nd} {pos : Int → Nat} (o : NdOk T t l) (ord : Ord T t pos) (hS : Srt H0 H S D l (.ref RD) 0 0) (hR : H RD = some (.list (intsV (rdyOf l)))) (hM : H0 aM = some (.dict (kvI many))) (h0R : H0 RD = none) :
  TS prog w s₀ A (callEnvC (mkFd p n q dv kv dc pm an cd ct) L fa) (topBody 22 20) (fun f _ _ => Q (retV f)) (Loc.ofArgs [(Str.ofString "many", .ref aM), (Str.ofString "needs", .dct (kvL (needsL T t))), (Str.ofString "ends", .lst (intsV [])), (Str.ofString "sorter", .ref S)]) H := by
 walk_at "prog,w,s₀,H,A,mg,mb,K,p,fa,n,q,dv,kv,dc,pm,an,cd,ct,L,rn,Q,W,T,nr,t,F,due,many,aM,S,D,RD,H0,l,pos|hp,P,C,r,hQ,f,hF,hall,hdm,hdt,o,ord,hS,hR,hM,h0R"
 try simp only [Loc.ofArgs, List.foldl]
 have e := def_eq hp rfl
 have hb := congrArg DefParts.body e
 have hs := congrArg DefParts.scope e
 dsimp only at hb hs
 have hb2 : topBody 22 20 = List.drop 20 p.body := by unfold topBody; rw [hp]
 rw [hb2, hb]
 dsimp only [List.drop]
 have hcell : ∀ x, p.scope.names.lookup x = some .cell → stored? (callEnvC (mkFd p n q dv kv dc pm an cd ct) L fa) x = true := fun x hx => stored_cell hx
 rw [hs] at hcell
 generalize henv : callEnvC (mkFd p n q dv kv dc pm an cd ct) L fa = env at hcell ⊢
 obtain ⟨hE, hsc⟩ := env_of henv hs rfl rfl rfl rfl
 have k0 := held_of "many" hsc rfl
 have k1 := held_of "needs" hsc rfl
 have k2 := held_of "ends" hsc rfl
 have k3 := held_of "sorter" hsc rfl
 have k4 := held_of "counts" hsc rfl
 have k5 := held_of "v" hsc rfl
 have s0 : stored? env (Str.ofString "counts") = true := hcell _ (by rfl)
 have s1 : stored? env (Str.ofString "v") = true := hcell _ (by rfl)
 have g0 := kind_g "sum" hsc rfl
 have c0 := kind_c "few" hsc rfl
 have c1 := kind_c "base" hsc rfl
 have c2 := kind_c "words" hsc rfl
 have c3 := kind_c "steps" hsc rfl
 have c4 := kind_c "most" hsc rfl
 have c5 := kind_c "told" hsc rfl
 have c6 := kind_c "v" hsc rfl
 have c7 := kind_c "ends" hsc rfl
 have c8 := kind_c "counts" hsc rfl
 have hG := P.G
 have v0 := P.nsum
 have b0 := boot_sum
 have q0 : KeepOk prog w s₀ (.raw (.builtin "sum")) := keep_bi _
 clear hsc henv hs hb e hp hb2 hcell
 have hu := r.units
 have hu' : A.units + 2 < cLine := by have := r.u; unfold cLine; exact o45 this
 have ka : KeepOk prog w s₀ (.raw (.ref 120)) := by obtain ⟨p, _, h⟩ := C.a5; exact keep_at h
 have kr : KeepOk prog w s₀ (.raw (.ref 113)) := by obtain ⟨p, _, h⟩ := C.a4; exact keep_at h
 have kd : KeepOk prog w s₀ (.raw (.ref 134)) := by obtain ⟨p, _, h⟩ := C.a7; exact keep_at h
 have hz5 : (ks t).length ≤ 5 := five f.nd fun v hv => f.rg hv
 have hcl : ∀ d ∈ l, ∀ v ∈ d.sc, v ∈ l.map (·.k) := fun d hd v hv => by
  rw [o.sc d hd] at hv
  exact (o.kk v).mpr (List.mem_filter.mp hv).1
 have hsz : ∀ d ∈ l, d.sc.length ≤ 1000 := fun d hd => by
  rw [o.sc d hd]
  exact Nat.le_trans (List.length_filter_le _ _) (by exact o174 hz5)
 repeat' walk_at "go"
 refine TE.dict0 fun aC hC => ?_
 walk_at "aC|hC"
 have nn : ∀ a o, H a = some o → a ≠ aC := fun a o e q => by rw [q, hC] at e; cases e
 have hSf : Sf H0 (H.put aC (.dict [])) S D RD l (fun v => (needsP T t v).length) (rdyOf l) 0 0 := by
  refine ⟨by rw [Hp.put_ne (nn _ _ hS.s)]; exact hS.s, by rw [Hp.put_ne (nn _ _ hS.d)]; exact hS.d, by rw [Hp.put_ne (nn _ _ hR)]; exact hR, hS.nd, hS.nda, fun d hd => ?_, fun a o e => ?_, hS.fr.1, hS.fr.2.1, h0R, hS.fr.2.2⟩
  ·have o1 := hS.o d hd
   rw [Hp.put_ne (nn _ _ o1), o1, o.np d hd]
  ·rw [Hp.put_ne (nn _ _ (hS.keep a o e))]; exact hS.keep a o e
 have hC1 : (H.put aC (.dict [])) aC = some (.dict (kvI (cntOf F t []))) := Hp.put_at
 have h0C : H0 aC = none := by
  cases e : H0 aC with
  | none => rfl
  | some o => rw [hS.keep aC o e] at hC; cases hC
 have hrdm : ∀ v, v ∈ rdyOf l ↔ v ∈ ks t ∧ ((needsP T t v).length : Int) = 0 := fun v => by
  unfold rdyOf
  rw [List.mem_map]
  constructor
  ·rintro ⟨d, hd, rfl⟩
   obtain ⟨h1, h2⟩ := List.mem_filter.mp hd
   have h2 : d.np = 0 := by simpa using h2
   rw [o.np d h1] at h2
   exact ⟨(o.kk _).mp (List.mem_map_of_mem (f := (·.k)) h1), h2⟩
  ·rintro ⟨h1, h2⟩
   obtain ⟨d, hd, rfl⟩ := List.mem_map.mp ((o.kk v).mpr h1)
   exact ⟨d, List.mem_filter.mpr ⟨hd, by rw [o.np d hd]; simpa using h2⟩, rfl⟩
 have hk0 : Kn T t [] [] (rdyOf l) (fun v => (needsP T t v).length) := Kn.start T t f.nd (fun v _ => rfl) (List.Nodup.sublist (List.Sublist.map _ List.filter_sublist) o.nd) hrdm
 clear hS hR hC nn
 generalize H.put aC (.dict []) = H1 at *
 generalize rdyOf l = rd0 at *
 generalize (fun v => ((needsP T t v).length : Int)) = np0 at *
 repeat' walk_at "go"
 refine T1.mono (Q := fun fl m' H' => fl = .next ∧ ∃ dn, dn.Nodup ∧ (∀ v, v ∈ dn ↔ v ∈ ks t) ∧ H' aC = some (.dict (kvI (cntOf F t dn))) ∧ H' aM = some (.dict (kvI many)) ∧ Has m' [(Str.ofString "many", .ref aM), (Str.ofString "ends", .lst (intsV [])), (Str.ofString "counts", .ref aC)]) ?_ ?_
 rotate_left
 ·rintro _ m' H' ⟨rfl, dn, hnd, hmem, hC, hM', hm⟩
  walk_at "m',H',dn|hnd,hmem,hC,hM',hm"
  have nMC : aM ≠ aC := fun q => by rw [q, h0C] at hM; cases hM
  show TS prog w s₀ A env _ _ m' H'
  refine TS.has hm ?_
  simp only [Loc.ofArgs, List.foldl]
  refine TS.view (x := Str.ofString "counts") (by walk_at "look") k4 (Turn.dict hC) ?_
  refine TS.view (x := Str.ofString "many") (by walk_at "look") k0 (Turn.dict (by unfold Hp.del; rw [if_neg nMC]; exact hM')) ?_
  refine TS.cons (T1.ret (TE.andC ?_))
  repeat' walk_at "go"
  refine TE.listZ ?_
  repeat' walk_at "go"
  refine ⟨by simp [sizeLine_eq], ?_⟩
  refine Op2.eq_lst (l := []) (l' := []) hu' ?_
  repeat' walk_at "go"
  rw [if_pos (by decide)]
  refine TE.and1 ?_
  repeat' walk_at "go"
  refine Op2.eq_dct (d := cntOf F t dn) (e := many) hu ?_
  have hde : ∀ k d, (k, d) ∈ due ↔ k ∈ ks t ∧ d = tv t k := fun k d => by
   rw [hdt]
   constructor
   ·intro h
    have hk : k ∈ ks t := List.mem_map_of_mem (f := (·.1)) h
    exact ⟨hk, tab_uniq f.nd h (f.at_ hk)⟩
   ·rintro ⟨hk, rfl⟩; exact f.at_ hk
  rw [dictEq_of (by simpa [cntOf, Function.comp_def] using hnd) hdm.nm (fun k v => by
   rw [hdm.many]
   constructor
   ·intro h
    obtain ⟨x, hx, e⟩ := List.mem_map.mp h
    cases e
    exact ⟨tv t k, (hde _ _).mpr ⟨(hmem k).mp hx, rfl⟩, rfl⟩
   ·rintro ⟨d, hd, rfl⟩
    obtain ⟨hk, rfl⟩ := (hde _ _).mp hd
    exact List.mem_map.mpr ⟨k, (hmem k).mpr hk, rfl⟩)]
  exact hQ
 refine T1.whiles (I := fun N m' H' => ∃ dn rd np, N = (ks t).length - dn.length ∧ Kn T t dn [] rd np ∧ Sf H0 H' S D RD l np rd dn.length dn.length ∧ H' aC = some (.dict (kvI (cntOf F t dn))) ∧
  Has m' [(Str.ofString "many", .ref aM), (Str.ofString "needs", .dct (kvL (needsL T t))), (Str.ofString "ends", .lst (intsV [])), (Str.ofString "sorter", .ref S), (Str.ofString "counts", .ref aC)]) ?_ _ ⟨[], rd0, np0, rfl, hk0, hSf, hC1, by walk_at "has"⟩
 clear hk0 hSf hC1
 rintro N m' H' ⟨dn, rd, np, rfl, hk, hS, hC, hm⟩
 walk_at "m',H',dn,rd,np|hk,hS,hC,hm"
 have hsz2 : dn.length + rd.length ≤ (ks t).length := by
  have := nodup_le hk.nd hk.sub
  simpa using this
 have hrk : ∀ v ∈ rd, v ∈ l.map (·.k) := fun v hv => (o.kk v).mpr (hk.sub v (by simp [hv]))
 refine TB.has hm ?_
 simp only [Loc.ofArgs, List.foldl]
 repeat' walk_at "go"
 refine OpM.inst C.x C.m5 hS.s hS.d rfl ?_
 repeat' walk_at "go"
 refine tc_active P C r hS (by exact o48 hz5 hsz2) ?_
 rw [show decide ((dn.length : Int) < dn.length) = false by simp, Bool.false_or]
 repeat' walk_at "go"
 by_cases hrd : rd = []
 ·subst hrd
  rw [if_neg (by decide)]
  repeat' walk_at "go"
  have hnd := hk.nd
  rw [List.append_nil, List.append_nil] at hnd
  exact ⟨rfl, dn, hnd, fun v => ⟨fun h => hk.sub v (by simp [h]), hk.all ord v⟩, hC, hS.keep _ _ hM, by walk_at "has"⟩
 have hrd' : rd.isEmpty = false := by
  cases rd with
  | nil => exact (hrd rfl).elim
  | cons a r => rfl
 rw [hrd', if_pos (by decide)]
 refine TS.cons (T1.fors ?_)
 repeat' walk_at "go"
 refine OpM.inst C.x C.m4 hS.s hS.d rfl ?_
 repeat' walk_at "go"
 refine tc_ready P C r (hS.base hC) (by exact o48 hz5 hsz2) hrk fun H2 hS2 => ?_
 walk_at "H2|hS2"
 obtain ⟨hS2, hC2⟩ := hS2.drop h0C
 refine ⟨_, OpIt.tup r.h, fun i m' H' => ∃ np' rd', Kn T t (dn ++ rd.take i) (rd.drop i) rd' np' ∧ Sf H0 H' S D RD l np' rd' (dn.length + rd.length) (dn.length + i) ∧ H' aC = some (.dict (kvI (cntOf F t (dn ++ rd.take i)))) ∧
  Has m' [(Str.ofString "many", .ref aM), (Str.ofString "needs", .dct (kvL (needsL T t))), (Str.ofString "ends", .lst (intsV [])), (Str.ofString "sorter", .ref S), (Str.ofString "counts", .ref aC)], ⟨_, [], by simpa using hk.pass, by simpa using hS2, by simpa using hC2, by walk_at "has"⟩, ?_, ?_⟩
 ·clear hS2 hC2 hC hS
  rintro i x m' H' hx ⟨np', rd', hk', hS', hC', hm⟩
  walk_at "i,x,m',H',np',rd'|hx,hk',hS',hC',hm"
  obtain ⟨v, hv, rfl⟩ := intsV_get hx
  walk_at "v|hv,hx"
  have hi := (List.getElem?_eq_some_iff.mp hv).1
  have hdrop : rd.drop i = v :: rd.drop (i + 1) := by rw [List.drop_eq_getElem_cons hi]; congr 1; exact Option.some.inj ((List.getElem?_eq_getElem hi).symm.trans hv)
  have htake : dn ++ rd.take (i + 1) = dn ++ rd.take i ++ [v] := by rw [List.take_add_one, hv]; simp
  rw [hdrop] at hk'
  simp only [htake]
  have hdl : (dn ++ rd.take i).length = dn.length + i := by rw [List.length_append, List.length_take]; exact o175 hi
  have hcast : (dn.length : Int) + (i + 1 : Nat) = (dn.length : Int) + i + 1 := by exact o176
  rw [hcast]
  have hvk : v ∈ ks t := hk'.sub v (by simp)
  have hvn : v ∉ dn ++ rd.take i := fun q => by
   have := hk'.nd
   rw [List.append_assoc, List.nodup_append] at this
   exact this.2.2 v q v (by simp) rfl
  have hpr : ∀ u ∈ needsP T t v, u ∈ dn ++ rd.take i := hk'.pred v (by simp)
  have hnp : np' v = -1 := hk'.oneg v (by simp)
  have hrl : rd'.length ≤ 1000 := by
   have := nodup_le hk'.nd hk'.sub
   simp only [List.length_append] at this
   exact o177 hz5 this
  have hdn : (dn ++ rd.take i).Nodup := by
   have := hk'.nd
   rw [List.append_assoc, List.nodup_append] at this
   exact this.1
  generalize dn ++ rd.take i = dn' at *
  refine TA.has hm ?_
  simp only [Loc.ofArgs, List.foldl]
  refine TA.name hE s1 ?_
  refine TS.cons (T1.assign_sub (TE.mono (Q := fun u m1 H1 => u = .int (nW F t v : Int) ∧ H' = H1 ∧ Has m1 [(Str.ofString "many", .ref aM), (Str.ofString "needs", .dct (kvL (needsL T t))), (Str.ofString "ends", .lst (intsV [])), (Str.ofString "sorter", .ref S), (Str.ofString "counts", .ref aC), (Str.ofString "v", .int v)]) ?_ ?_))
  ·refine TE.ifexp ?_
   repeat' walk_at "go"
   by_cases h0 : v = 0
   ·subst h0
    rw [if_pos (by decide)]
    repeat' walk_at "go"
    exact ⟨by rw [f.count0 hF hall]; rfl, rfl, by walk_at "has"⟩
   ·rw [if_neg (by simpa using h0)]
    repeat' walk_at "go"
    refine TE.comp_lst hE (by rfl) (by decide +kernel) (Reads.of (fr := [Str.ofString "counts"]) (by decide +kernel) (ReadsL.cons (.inl c8) (by walk_at "look") ReadsL.nil)) ?_
    repeat' walk_at "go"
    have hnv : dget (kvL (needsL T t)) v = some (.lst (intsV (needsP T t v))) := by
     have := gget_mem (t := needsL T t) (e := (v, needsP T t v)) (by simpa [needsL, Function.comp_def] using f.nd) (List.mem_map.mpr ⟨v, hvk, rfl⟩)
     rw [kvM_get, this]; rfl
    refine Op2.tail_dct (fun _ _ => ⟨_, rfl⟩) (Op2.item_dct hnv ?_)
    have hnlen : (needsP T t v).length ≤ 5 := Nat.le_trans (List.length_filter_le _ _) hz5
    refine Turns.go (f := cntF F t) hE (by rfl) (.inl (by rfl)) (OpIt.lst r.h) (by simp [intsV, sizeLine_eq]; exact o6 hnlen) (Reads.of (fr := [Str.ofString "counts"]) (by decide +kernel) (ReadsL.cons (.inl c8) (by walk_at "look") ReadsL.nil)) (fun ce hce i2 x hx2 M mk mo => ?_) ?_
    ·walk_at "ce,i2,x,M|hce,hx2,mk,mo"
     obtain ⟨u, hu, rfl⟩ := intsV_get hx2
     walk_at "u|hu,hx2,mk"
     have hud := hpr u (List.mem_of_getElem? hu)
     refine TIfs.nil (iteT ?_)
     have hE' := hce.E
     have x0 := hce.held (y := Str.ofString "u") (by rfl)
     have x1 := hce.held (y := Str.ofString "counts") (by rfl)
     have y1 := mo (Str.ofString "counts") _ (by simp [ofString_eq]) (by rfl) (by walk_at "look")
     repeat' walk_at "go"
     refine Op2.tail_dict (fun _ _ => ⟨_, rfl⟩) hC' (Op2.item_dict hC' (cnt_get hdn hud) ?_)
     exact ⟨rfl, rfl, rfl⟩
    ·rw [cntF_all]
     repeat' walk_at "go"
     refine TC.sum_lst r.h ?_
     refine ⟨?_, rfl, by walk_at "has"⟩
     rw [f.count ord hF hall hvk h0, sum_cast, List.map_map]
     rfl
  ·rintro _ m1 _ ⟨rfl, rfl, hm⟩
   walk_at "m1|hm"
   refine TE.has hm ?_
   simp only [Loc.ofArgs, List.foldl]
   repeat' walk_at "go"
   have hdz : dn'.length ≤ 5 := Nat.le_trans (nodup_le hdn (fun u hu => hk'.sub u (by simp [hu]))) hz5
   refine OpU.setItem_dict hC' (by simp [kvM, cntOf, sizeLine_eq]; exact o178 hz5 hsz2 hi hdl) ?_
   rw [cnt_new hvn]
   have hS3 := hS'.other (d' := kvI (cntOf F t (dn' ++ [v]))) hC' h0C
   have hC3 : (H'.put aC (.dict (kvI (cntOf F t (dn' ++ [v]))))) aC = some (.dict (kvI (cntOf F t (dn' ++ [v])))) := Hp.put_at
   generalize H'.put aC (.dict (kvI (cntOf F t (dn' ++ [v])))) = H3 at *
   repeat' walk_at "go"
   refine OpM.inst C.x C.m7 hS3.s hS3.d rfl ?_
   repeat' walk_at "go"
   refine tc_done P C r (hS3.base hC3) hrl ((o.kk v).mpr hvk) hnp hcl hsz fun H4 hS4 => ?_
   obtain ⟨hS4, hC4⟩ := hS4.drop h0C
   repeat' walk_at "go"
   exact ⟨_, _, hk'.done f o, hS4, hC4, by walk_at "has"⟩
 ·rintro m' H' ⟨np', rd', hk', hS', hC', hm⟩
  walk_at "m',H',np',rd'|hk',hS',hC',hm"
  have el : (intsV rd).length = rd.length := by simp [intsV]
  rw [el] at hk' hS' hC'
  rw [List.take_length, List.drop_length] at hk'
  rw [List.take_length] at hC'
  have hlen : ((dn ++ rd).length : Int) = dn.length + rd.length := by rw [List.length_append]; exact o47
  rw [← hlen] at hS'
  have hpos : 0 < rd.length := List.length_pos_iff.mpr hrd
  repeat' walk_at "go"
  refine ⟨_, ?_, dn ++ rd, rd', np', rfl, hk', hS', hC', hm⟩
  rw [List.length_append]; exact o179 hsz2 hpos
end
section
open PySem.Calls
variable {K : Frag}
theorem law_call (P : Prg s₀ mg mb) (C : Cls s₀ K) {CE : Addr} (O : OwnClsQ (Str.ofString "CycleError") CE veM "ValueError.__new__" mg s₀.heap) {fa : Addr} (hat : ∃ p, topDef 22 = some p ∧ At s₀ fa p .none) {rn : Nat} (r : Room A (rn + 20)) (hfr : A.frames = some [])
  {l : Addr} {ws : List Value} {ns : List Int} (hl : s₀.heap.IsList l ws.toArray) (hi : IntsAre ws ns) (hz : ns.length ≤ 63) (hlim : s₀.heap.NoLimit) (hg : s₀.gens = #[]) :
  codeAny (model prog w) A (.call (.ref fa) ⟨[.ref l], []⟩) (fun r s' => r = .ok (.ret (.bool true)) ∧ (∀ b o, s₀.heap.get? b = some o → s'.heap.get? b = some o) ∧ s'.os = s₀.os ∧ s'.gens = #[]) s₀ := by
 obtain ⟨p, hp, hat⟩ := hat
 have e := def_eq hp rfl
 have hpar := congrArg DefParts.params e
 have hs := congrArg DefParts.scope e
 dsimp only at hs hpar
 obtain ⟨o, n, q, kv, dc, pm, an, cd, ct, h1, h2, h3⟩ := hat.ex
 have hb : topBody 22 0 = p.body := by simp only [topBody, hp]; rfl
 have hfree : ∀ x, (mkFd p n q .none kv dc pm an cd ct).scope.names.lookup x ≠ some .free := fun x hx => by
  have hx : p.scope.names.lookup x = some .free := hx
  have h4 := mem_of_lookup hx
  have h5 : (p.scope.names.all fun x => x.2 != .free) = true := by rw [hs]; rfl
  have := List.all_eq_true.mp h5 _ h4
  cases this
 refine codeAny_mono (law_enter (Q := fun u => u = .bool true) (x := Str.ofString "script") h1 h2 h3 rfl (r.lt) (by unfold mkFd; rw [hpar]; rfl) rfl (by show p.scope.names.lookup _ = _; rw [hs]; rfl) hfree (by show p.scope.isCoroutine = _; rw [hs]) (by show p.scope.isGenerator = _; rw [hs]) (by show p.scope.kind = _; rw [hs]) hlim hg hfr fun L => ?_) ?_
 ·have rr : Room (A.deeper (callEnvC (mkFd p n q .none kv dc pm an cd ct) L fa)) (rn + 19) := r.deeper _
  have hfd : (A.deeper (callEnvC (mkFd p n q .none kv dc pm an cd ct) L fa)).frames = some [callEnvC (mkFd p n q .none kv dc pm an cd ct) L fa] := Around.frames_deeper hfr
  have hst : ∀ e ∈ [callEnvC (mkFd p n q .none kv dc pm an cd ct) L fa], e.scope.kind ≠ .module ∧ ∃ L, e.frame = some L := fun e he => by
   cases List.mem_singleton.mp he
   exact ⟨by show p.scope.kind ≠ _; rw [hs]; decide, _, rfl⟩
  refine law1 (Q := fun u => u = .bool true) p hp L P (rn := rn + 15) rr hl hi hz fun W six mo aH aT aL H1 wl wk m0 m8 hsix hH hT hL hne => ?_
  have g : Gm W (stepsP W ([0, 5, 11, 2, 23, 18] ++ six)) (nearP W mo) := Gm.of wl wk m0 m8
  have hnl : (nearP W mo).length = 5 := by simp [nearP, wl]
  generalize nearP W mo = nr at *
  generalize stepsP W ([0, 5, 11, 2, 23, 18] ++ six) = T at *
  refine law2 (Q := fun u => u = .bool true) p hp L P (rn := rn + 15) rr g hnl hH hT hL hne fun t hs H2 ht htn hso hsl hT hL => ?_
  refine law3 (Q := fun u => u = .bool true) p hp L P (rn := rn + 15) rr g ht htn hso hsl hT hL fun F due many aM H3 hall hF hdm hdt hM => ?_
  have htr : ∀ v d, (v, d) ∈ t → 0 ≤ v ∧ v < 5 := fun v d h => ((ht v d).mp h).rg g.ok
  have f : Fd W T nr t := ⟨g, htn, ht⟩
  refine law4a (Q := fun u => u = .bool true) p hp L P (rn := rn + 15) rr g.ok htr htn hM fun aN H4 hN hM => ?_
  refine law4b (Q := fun u => u = .bool true) p hp L P (rn := rn + 15) rr g.ok htr htn ?_
  refine law5 (Q := fun u => u = .bool true) p hp L P C O (rn := rn + 12) rr hfd hst rfl f wl hN hM fun l pos S D RD H0 H5 ho hor hS hR hM hRD => ?_
  exact law6 (Q := fun u => u = .bool true) p hp L P C (rn := rn + 12) rr rfl f hF hall hdm hdt ho hor hS hR hM hRD
 ·rintro r s' ⟨u, y, Z, rfl, hv, rfl, h4, h5, h6⟩
  obtain ⟨_, rfl⟩ := hv.inv
  exact ⟨rfl, h4, h5, h6⟩
end
section
open PySem PySem.W PyProof.Rows PySem.Calls
/-! the head: what stands after the text's top -/
theorem lookup_mem {a : Addr} {o : Obj} : ∀ {K : Frag}, K.lookup a = some o → (a, o) ∈ K := by
 intro K
 induction K with
 | nil => intro h; cases h
 | cons x K ih =>
  intro h
  obtain ⟨b, p⟩ := x
  rw [List.lookup_cons] at h
  by_cases q : a = b
  ·subst q
   rw [beq_self_eq_true] at h
   obtain rfl := Option.some.inj h
   exact List.mem_cons_self
  ·rw [beq_eq_false_iff_ne.mpr q] at h
   exact List.mem_cons_of_mem _ (ih h)
theorem frg_in (h : Heap) : (frg h).In h := fun a o e => by
 have hm := lookup_mem e
 obtain ⟨b, _, hb⟩ := List.mem_filterMap.mp hm
 cases q : h.get? b with
 | none => rw [q] at hb; cases hb
 | some o' => rw [q] at hb; cases hb; exact q
theorem eqv {α : Type} [BEq α] [LawfulBEq α] {a b : α} (h : (a == b) = true) : a = b := eq_of_beq h
set_option tactic.hygienic true in
theorem code_of {h : Heap} {K : Frag} (X : K.In h) {cd : Value} {q : Str} (e : codeB K cd q = true) : h.CodeRec cd q := by
 walk_at "h,K,cd,q|X,e"
 unfold codeB at e
 split at e
 ·rename_i c
  split at e
  ·rename_i cc od vs cs hK
   split at e
   ·rename_i x tk hv
    obtain rfl := of_decide_eq_true e
    exact ⟨c, _, vs, tk, rfl, X _ _ hK, rfl, hv⟩
   ·cases e
  ·cases e
 ·cases e
set_option tactic.hygienic true in
theorem at_of {s : Shared} {K : Frag} (X : K.In s.heap) {a : Addr} {d : Option DefParts} {dv : Value} (e : fnO K a = fnE dv d) (hd : d.isSome = true) : ∃ p, d = some p ∧ At s a p dv := by
 walk_at "s,K,a,d,dv|X,e,hd"
 obtain ⟨p, rfl⟩ := Option.isSome_iff_exists.mp hd
 walk_at "p|e,hd"
 refine ⟨p, rfl, ?_⟩
 unfold fnO at e
 split at e
 ·rename_i oc od fd sl hK
  simp only [fnE, Option.map_some, Option.some.injEq, Prod.mk.injEq] at e
  obtain ⟨e1, e2, e3, e4, e5, e6, e7, e8⟩ := e
  refine ⟨⟨_, fd.name, fd.qualname, fd.kwdefaults, fd.doc, fd.pyModule, fd.annotations, fd.code, fd.closureTuple, X _ _ hK, ?_, code_of X e8⟩⟩
  have : fd = mkFd p fd.name fd.qualname dv fd.kwdefaults fd.doc fd.pyModule fd.annotations fd.code fd.closureTuple := by
   unfold mkFd
   rw [← e1, ← e2, ← e3, ← e4, ← e5, ← e6, ← e7]
  exact congrArg Data.func this
 ·cases e
theorem fld_of {K : Frag} {x : Str} (h : fldB K x = true) (h1 : hasDictIn K 151 = true) (h2 : findIn K (.ref 151) "__setattr__" = some (some (.builtin "object.__setattr__"))) (h3 : plainOver K 151 = true) : FieldK K 151 x := by
 unfold fldB at h
 simp only [Bool.and_eq_true] at h
 exact ⟨h.1, h1, eqv h.2.1, eqv h.2.2, h2, h3⟩
theorem mth_of {K : Frag} {x : Str} {a : Addr} (h : mthB K x a = true) : MethK K 151 x a := by
 unfold mthB at h
 simp only [Bool.and_eq_true] at h
 exact ⟨h.1, eqv h.2.1, h.2.2⟩
theorem mk_of {K : Frag} {C f : Addr} (h : mkB K C f = true) : MakeK K C f ∧ keepIn K (.ref C) = true ∧ findIn K (.ref C) "__setattr__" = some (some (.builtin "object.__setattr__")) ∧ plainOver K C = true := by
 walk_at "K,C,f|h"
 unfold mkB at h
 simp only [Bool.and_eq_true] at h
 obtain ⟨a, b, c, d, e, f⟩ := h
 exact ⟨⟨a, eqv b, eqv c⟩, d, eqv e, f⟩
theorem slt_of {K : Frag} {x : Str} {i : Nat} {p : Addr} (h : sltB K x i p = true) (h1 : isClsIn K 54 = true) (h2 : findIn K (.ref 54) "__setattr__" = some (some (.builtin "object.__setattr__"))) (h3 : plainOver K 54 = true) (hi : i < 1000) : SlotK K 54 x i p := by
 walk_at "K,x,i,p|h,h1,h2,h3,hi"
 unfold sltB at h
 simp only [Bool.and_eq_true] at h
 obtain ⟨a, b, c, d, e, f, g⟩ := h
 exact ⟨a, h1, eqv b, eqv c, eqv d, eqv e, eqv f, eqv g, h2, h3, hi⟩
set_option tactic.hygienic true in
theorem tup_of {s : Shared} {K : Frag} (X : K.In s.heap) (h : tupB K = true) : ∃ o n, s.heap.get? 80 = some o ∧ o.data = .seq #[.none] n := by
 walk_at "s,K|X,h"
 unfold tupB at h
 split at h
 ·rename_i oc od vs n sl hK
  rw [eqv h] at hK
  exact ⟨_, n, X _ _ hK, rfl⟩
 ·cases h
end
section
open PySem PySem.W PyProof.Rows PySem.Calls
variable {s : Shared} {K : Frag}
set_option tactic.hygienic true in
theorem num_of {m : Str → Option Value} {x : String} {i : Int} (h : numB m x i = true) : ∃ t, m (Str.ofString x) = some (.int i t) := by
 unfold numB at h
 split at h
 ·rename_i j t e
  exact ⟨t, by rw [e, of_decide_eq_true h]⟩
 ·cases h
theorem no_of {m : Str → Option Value} {x : String} (h : noB m x = true) : m (Str.ofString x) = none := Option.isNone_iff_eq_none.mp h
theorem law_ref (hm : mgB mg = true) : mg (Str.ofString "law") = some (.ref 209) := by
 walk_at "mg|hm"
 unfold mgB at hm
 simp only [Bool.and_eq_true] at hm
 obtain ⟨⟨_, _, _, _, _, _, _, _, _, _, _, h, _⟩, _⟩ := hm
 exact eqv h
theorem prg_of (G : Glo s mg mb) (hm : mgB mg = true) (X : K.In s.heap) (hf : fnsO K = fnsE) : Prg s mg mb := by
 walk_at "s,mg,mb,K|G,hm,X,hf"
 unfold mgB at hm
 simp only [Bool.and_eq_true] at hm
 obtain ⟨⟨r1, r2, r3, r4, r5, r6, r7, r8, r9, r10, r11, r13, r12⟩, ⟨n1, n2, n3, n4, n5⟩, o1, o2, o3, o4, o5, o6, o7, o8, o9, o10, o11, o12⟩ := hm
 simp only [fnsO, fnsE, List.map_cons, List.map_nil, List.cons.injEq, and_true] at hf
 obtain ⟨f1, f2, f3, f4, f5, f6, f7, f8, f9, _⟩ := hf
 exact {
  G := G
  f5 := eqv r1
  d5 := at_of X f1 rfl
  f6 := eqv r2
  d6 := at_of X f2 rfl
  f14 := eqv r3
  d14 := at_of X f3 rfl
  f15 := eqv r4
  d15 := at_of X f4 rfl
  f16 := eqv r5
  d16 := at_of X f5 rfl
  f17 := eqv r6
  d17 := at_of X f6 rfl
  f19 := eqv r7
  d19 := at_of X f7 rfl
  f20 := eqv r8
  d20 := at_of X f8 rfl
  f21 := eqv r9
  d21 := at_of X f9 rfl
  c_MAX_STRING_SIZE := num_of n1
  c_MOVE_COST := num_of n2
  c_CASE_COST := num_of n3
  c_NODE_OUT := num_of n4
  c_NODE_DONE := num_of n5
  k_NodeInfo := eqv r10
  kCycleError := eqv r11
  kTopologicalSorter := eqv r12
  nlen := no_of o1
  nrange := no_of o2
  nmin := no_of o3
  nlist := no_of o4
  nsum := no_of o5
  nsorted := no_of o6
  ntuple := no_of o7
  nset := no_of o8
  niter := no_of o9
  nbool := no_of o10
  nStopIteration := no_of o11
  nValueError := no_of o12 }
theorem cls_of (X : K.In s.heap) (hf : fnsO K = fnsE) (hc : clsB K = true) : Cls s K := by
 walk_at "s,K|X,hf,hc"
 unfold clsB at hc
 simp only [Bool.and_eq_true] at hc
 obtain ⟨a1, a2, a3, a4, m1, m2, m3, m4, m5, m6, m7, s1, s2, s3, k1, k2, h1, h2, h3, h4, h5, h6⟩ := hc
 simp only [fnsO, fnsE, List.map_cons, List.map_nil, List.cons.injEq, and_true] at hf
 obtain ⟨_, _, _, _, _, _, _, _, _, _, f1, f2, f3, f4, f5, f6, f7, f8, f9⟩ := hf
 obtain ⟨x1, x2, x3, x4⟩ := mk_of k1
 obtain ⟨y1, y2, y3, y4⟩ := mk_of k2
 obtain ⟨o, n, t1, t2⟩ := tup_of X h6
 walk_at "o,n|t1,t2"
 obtain ⟨p, p1, p2⟩ := at_of X f1 rfl
 walk_at "p|p1,p2"
 exact {
  x := X
  fN := fld_of a1 h1 x3 x4
  fR := fld_of a2 h1 x3 x4
  fP := fld_of a3 h1 x3 x4
  fF := fld_of a4 h1 x3 x4
  m1 := mth_of m1
  m2 := mth_of m2
  m3 := mth_of m3
  m4 := mth_of m4
  m5 := mth_of m5
  m7 := mth_of m6
  m8 := mth_of m7
  mkS := x1
  mkN := y1
  kS := x2
  kN := y2
  t0 := slt_of s1 h2 y3 y4 (by decide)
  t1 := slt_of s2 h2 y3 y4 (by decide)
  t2 := slt_of s3 h2 y3 y4 (by decide)
  fn2 := h3
  g2 := eqv h4
  tk2 := eqv h5
  a0 := ⟨p, 80, o, n, p1, p2, t1, t2⟩
  a1 := at_of X f2 rfl
  a2 := at_of X f3 rfl
  a3 := at_of X f4 rfl
  a4 := at_of X f5 rfl
  a5 := at_of X f6 rfl
  a7 := at_of X f7 rfl
  a8 := at_of X f8 rfl
  b0 := at_of X f9 rfl }
end
section
open PySem PySem.W PyProof.Rows PySem.Calls
set_option maxRecDepth 100000
set_option maxHeartbeats 8000000
noncomputable def YP (w : World) (h : Heap) : Prop := ∃ K : Frag, K.In h ∧ clsB K = true ∧ fnsO K = fnsE
theorem own_of {mean : ExcName → Option Value} {mg mb : Str → Option Value} {h : Heap} {lo : List Str} (T : Top qv lo mean mg mb h) : ∃ CE, OwnClsQ (Str.ofString "CycleError") CE veM "ValueError.__new__" mg h := by
 have e : (ownsOf qv).map (fun o => (o.name, o.bm, o.newId)) = [(Str.ofString "CycleError", veM, "ValueError.__new__")] := by kernel_rfl
 have hm : (Str.ofString "CycleError", veM, "ValueError.__new__") ∈ (ownsOf qv).map (fun o => (o.name, o.bm, o.newId)) := by rw [e]; exact List.mem_cons_self
 obtain ⟨o, ho, q⟩ := List.mem_map.mp hm
 obtain ⟨C, O, _⟩ := T.own o ho
 have q1 : o.name = _ := congrArg Prod.fst q
 have q2 : o.bm = _ := congrArg (fun x => x.2.1) q
 have q3 : o.newId = _ := congrArg (fun x => x.2.2) q
 rw [q1, q2, q3] at O
 exact ⟨C, O⟩
set_option tactic.hygienic true in
theorem walk_it {d : DefRec} {kwd : List (Str × Expr)} (hdn : d.name = Str.ofString "law") : WalkO qv lo (fun mg _ => mgB mg = true) YP PySem.Challenge.rw_om0136_01.row.toRowW d kwd (fun f vs => PySem.call f vs) := by
 walk_at "d,kwd|hdn"
 intro w s₀ s₁ mg mb G Y fa o pm cd doc dV kV ho hd hcd hD hmg hg args vals as hpre hlay hrd hwl hlo
 walk_at "w,s₀,s₁,mg,mb,fa,o,pm,cd,doc,dV,kV,args,vals,as|G,Y,ho,hd,hcd,hD,hmg,hg,hpre,hlay,hrd,hwl,hlo"
 obtain ⟨K, X, hc, hf⟩ := Y
 walk_at "K|X,hc,hf"
 have hm : mgB mg = true := G.X
 have hG : Glo s₁ mg mb := ⟨G.T.g, G.T.b, G.T.builtins, G.T.nolimit⟩
 have P := prg_of hG hm X hf
 have C := cls_of X hf hc
 obtain ⟨CE, O⟩ := own_of G.T
 walk_at "CE|O"
 rw [hdn, law_ref hm] at hmg
 have hfa : fa = 209 := by
  have := Option.some.inj hmg
  exact (Value.ref.inj this).symm
 subst hfa
 have hat : ∃ p, topDef 22 = some p ∧ At s₁ 209 p .none := by
  simp only [fnsO, fnsE, List.map_cons, List.map_nil, List.cons.injEq, and_true] at hf
  obtain ⟨_, _, _, _, _, _, _, _, _, f10, _⟩ := hf
  exact at_of X f10 rfl
 clear ho hd hcd hD hmg
 wrow_args hpre hlay hrd hwl hlo
 rename_i ns _ _ _ _ _ _ l ws _ hl _ _ _ hi _ hz _
 refine wpAny_call (codeAny_mono (law_call (rn := 0) P C O hat ⟨rfl, by decide, by decide⟩ rfl hl hi (by omega) G.T.nolimit hg) ?_)
 rintro r s' ⟨rfl, h1, h2, h3⟩
 refine GoodW.toG ⟨.inl ⟨.bool true, .bool true, [], rfl, fun _ => rfl, .bool true, ?_, fun _ => ⟨.nil, by simp⟩⟩, h1, h2, h3⟩
 exact postW_of (by wrow_shape) (by wtm_val) (by w_fin)
theorem left_hY (w : World) (s : Shared) (e : YfB s = (true, fnsE)) : YP w s.heap :=
 ⟨frg s.heap, frg_in _, congrArg Prod.fst e, congrArg Prod.snd e⟩
theorem left_hYk (w : World) (h h' : Heap) (Y : YP w h) (k : ∀ b o, h.get? b = some o → h'.get? b = some o) : YP w h' := by
 obtain ⟨K, X, e⟩ := Y
 exact ⟨K, fun b o q => k b o (X b o q), e⟩
theorem law_holds : PySem.Challenge.rw_om0136_01.Holds := by
 refine holds_law well_said fun said => ?_
 refine holds_open (r := PySem.Challenge.rw_om0136_01.row) (q := qv) (loose := lo) (Xt := XtB) (XP := fun mg _ => mgB mg = true) (Yf := YfB) (Ya := fun _ => (true, fnsE)) (YP := YP) (N := 2970) left left_hY left_hYk (fun _ e => e) (fun _ _ _ e _ => e) (by rfl) (by rfl) (by rfl) (fun s _ => recFacts_nil rfl) (by rfl) said (by decide +kernel) ⟨rfl, rfl, rfl, rfl, rfl, by decide +kernel⟩ (by w_witness2) (walk_it (by rfl))
end
end Mine
theorem PySem.Challenge.cw_om0136_01_holds : PySem.Challenge.rw_om0136_01.Holds :=
 Mine.law_holds
